import JvmDerived
import JvmDerived.Pilot.@@N@@Statement
import JvmDerived.Pilot.@@N@@Code
set_option linter.unusedVariables false
set_option linter.unusedSimpArgs false
namespace Jvm.Pilot.@@N@@
open Jvm Jvm.ClassFile Sem Op Lib Jvm.Free Jvm.Stand Jvm.LawKit Jvm.RoadKit Bundle Jvm.Pilot.@@N@@.Jvm.D
abbrev HW (a0 : Array Value) (Z : State) : Prop := ∀ d ∈ tables_1, d.before a0 Z = true
abbrev Y0 : MethodName := (⟨"java/lang/Number", "<init>", "()V"⟩ : MethodName)
abbrev Y1 : MethodName := (⟨"java/lang/Integer", "<init>", "(I)V"⟩ : MethodName)
abbrev Y2 : MethodName := (⟨"java/lang/Integer", "valueOf", "(I)Ljava/lang/Integer;"⟩ : MethodName)
abbrev Y3 : MethodName := (⟨"java/lang/Integer", "intValue", "()I"⟩ : MethodName)
abbrev Y4 : MethodName := (⟨"com/example/rosewood/rosewood/RosewoodMap", "leftmost", "(Lcom/example/rosewood/rosewood/RosewoodMap$Node;)Lcom/example/rosewood/rosewood/RosewoodMap$Node;"⟩ : MethodName)
abbrev Y5 : MethodName := (⟨"com/example/rosewood/rosewood/RosewoodMap", "first", "()Lcom/example/rosewood/rosewood/RosewoodMap$Node;"⟩ : MethodName)
abbrev Y6 : MethodName := (⟨"com/example/rosewood/rosewood/RosewoodMap", "keyOf", "(Lcom/example/rosewood/rosewood/RosewoodMap$Node;)Ljava/lang/Object;"⟩ : MethodName)
abbrev Y7 : MethodName := (⟨"java/lang/Integer", "compare", "(II)I"⟩ : MethodName)
abbrev Y8 : MethodName := (⟨"java/lang/Integer", "compareTo", "(Ljava/lang/Integer;)I"⟩ : MethodName)
abbrev Y9 : MethodName := (⟨"java/lang/Integer", "compareTo", "(Ljava/lang/Object;)I"⟩ : MethodName)
abbrev Y10 : MethodName := (⟨"java/lang/Comparable", "compareTo", "(Ljava/lang/Object;)I"⟩ : MethodName)
abbrev Y11 : MethodName := (⟨"com/example/rosewood/rosewood/RosewoodMap", "compare", "(Ljava/lang/Object;Ljava/lang/Object;)I"⟩ : MethodName)
abbrev Y12 : MethodName := (⟨"com/example/rosewood/rosewood/RosewoodMap", "addToLeftCount", "(Lcom/example/rosewood/rosewood/RosewoodMap$Node;I)V"⟩ : MethodName)
abbrev Y13 : MethodName := (⟨"com/example/rosewood/rosewood/RosewoodMap$Node", "<init>", "(Ljava/lang/Object;Ljava/lang/Object;Lcom/example/rosewood/rosewood/RosewoodMap$Node;)V"⟩ : MethodName)
abbrev Y14 : MethodName := (⟨"com/example/rosewood/rosewood/RosewoodMap", "newNode", "(Ljava/lang/Object;Ljava/lang/Object;Lcom/example/rosewood/rosewood/RosewoodMap$Node;)Lcom/example/rosewood/rosewood/RosewoodMap$Node;"⟩ : MethodName)
abbrev Y15 : MethodName := (⟨"com/example/rosewood/rosewood/RosewoodMap", "refreshToRoot", "(Lcom/example/rosewood/rosewood/RosewoodMap$Node;)V"⟩ : MethodName)
abbrev Y16 : MethodName := (⟨"com/example/rosewood/rosewood/RosewoodMap", "isRed", "(Lcom/example/rosewood/rosewood/RosewoodMap$Node;)Z"⟩ : MethodName)
abbrev Y17 : MethodName := (⟨"com/example/rosewood/rosewood/RosewoodMap", "setRed", "(Lcom/example/rosewood/rosewood/RosewoodMap$Node;Z)V"⟩ : MethodName)
abbrev Y18 : MethodName := (⟨"com/example/rosewood/rosewood/RosewoodMap", "balanceAfterInsert", "(Lcom/example/rosewood/rosewood/RosewoodMap$Node;)V"⟩ : MethodName)
abbrev Y19 : MethodName := (⟨"com/example/rosewood/rosewood/RosewoodMap", "addIfAbsent", "(Ljava/lang/Object;Ljava/lang/Object;)Lcom/example/rosewood/rosewood/RosewoodMap$Node;"⟩ : MethodName)
abbrev Y20 : MethodName := (⟨"com/example/rosewood/rosewood/RosewoodMap", "put", "(Ljava/lang/Object;Ljava/lang/Object;)Ljava/lang/Object;"⟩ : MethodName)
abbrev Y21 : MethodName := (⟨"com/example/rosewood/rosewood/RosewoodMap", "countPlace", "(Lcom/example/rosewood/rosewood/RosewoodMap$Node;II)V"⟩ : MethodName)
abbrev Y22 : MethodName := (⟨"com/example/rosewood/rosewood/RosewoodMap$Node", "setValue", "(Ljava/lang/Object;)Ljava/lang/Object;"⟩ : MethodName)
abbrev Y23 : MethodName := (⟨"com/example/rosewood/rosewood/RosewoodMap", "replaceValue", "(Lcom/example/rosewood/rosewood/RosewoodMap$Node;Ljava/lang/Object;)Ljava/lang/Object;"⟩ : MethodName)
abbrev Y24 : MethodName := (⟨"com/example/rosewood/rosewood/RosewoodMap", "replaceInParent", "(Lcom/example/rosewood/rosewood/RosewoodMap$Node;Lcom/example/rosewood/rosewood/RosewoodMap$Node;)V"⟩ : MethodName)
abbrev Y25 : MethodName := (⟨"com/example/rosewood/rosewood/RosewoodMap", "leftCount", "(Lcom/example/rosewood/rosewood/RosewoodMap$Node;)I"⟩ : MethodName)
abbrev Y26 : MethodName := (⟨"com/example/rosewood/rosewood/RosewoodMap", "refresh", "(Lcom/example/rosewood/rosewood/RosewoodMap$Node;)V"⟩ : MethodName)
abbrev Y27 : MethodName := (⟨"com/example/rosewood/rosewood/RosewoodMap", "rotateRight", "(Lcom/example/rosewood/rosewood/RosewoodMap$Node;)V"⟩ : MethodName)
abbrev Y28 : MethodName := (⟨"com/example/rosewood/rosewood/RosewoodMap", "countAbove", "(Lcom/example/rosewood/rosewood/RosewoodMap$Node;I)V"⟩ : MethodName)
abbrev Y29 : MethodName := (⟨"com/example/rosewood/rosewood/RosewoodMap", "rotateLeft", "(Lcom/example/rosewood/rosewood/RosewoodMap$Node;)V"⟩ : MethodName)
abbrev Y30 : MethodName := (⟨"java/util/AbstractMap", "<init>", "()V"⟩ : MethodName)
abbrev Y31 : MethodName := (⟨"com/example/rosewood/rosewood/RosewoodMap", "<init>", "(Ljava/util/Comparator;)V"⟩ : MethodName)
abbrev Y32 : MethodName := (⟨"com/example/rosewood/rosewood/RosewoodMap", "<init>", "()V"⟩ : MethodName)
abbrev Y33 : MethodName := (⟨"java/lang/Object", "<init>", "()V"⟩ : MethodName)
theorem Wd2 {Z : State} {a0 : Array Value} (hw : HW a0 Z) : (Jvm.Cond.instantiable "com/example/rosewood/rosewood/RosewoodMap" 7).before a0 Z = true := hw _ (List.mem_of_getElem? (i := 2) rfl)
theorem Wd3 {Z : State} {a0 : Array Value} (hw : HW a0 Z) : (Jvm.Cond.initialized "com/example/rosewood/rosewood/RosewoodMap").before a0 Z = true := hw _ (List.mem_of_getElem? (i := 3) rfl)
theorem Wd16 {Z : State} {a0 : Array Value} (hw : HW a0 Z) : (Jvm.Cond.instanceMethod Y33).before a0 Z = true := hw _ (List.mem_of_getElem? (i := 16) rfl)
theorem Wd17 {Z : State} {a0 : Array Value} (hw : HW a0 Z) : (Jvm.Cond.code Y33 object_method_1_code 1 (Option.none : Option FieldType)).before a0 Z = true := hw _ (List.mem_of_getElem? (i := 17) rfl)
theorem Wd18 {Z : State} {a0 : Array Value} (hw : HW a0 Z) : (Jvm.Cond.fieldLink "com/example/rosewood/rosewood/RosewoodMap" 14 "com/example/rosewood/rosewood/RosewoodMap" "comparator" "Ljava/util/Comparator;").before a0 Z = true := hw _ (List.mem_of_getElem? (i := 18) rfl)
theorem Wd19 {Z : State} {a0 : Array Value} (hw : HW a0 Z) : (Jvm.Cond.laysFinal "com/example/rosewood/rosewood/RosewoodMap" "com/example/rosewood/rosewood/RosewoodMap" "comparator" "Ljava/util/Comparator;").before a0 Z = true := hw _ (List.mem_of_getElem? (i := 19) rfl)
theorem Wd25 {Z : State} {a0 : Array Value} (hw : HW a0 Z) : (Jvm.Cond.fieldLink "com/example/rosewood/rosewood/RosewoodMap" 22 "com/example/rosewood/rosewood/RosewoodMap" "root" "Lcom/example/rosewood/rosewood/RosewoodMap$Node;").before a0 Z = true := hw _ (List.mem_of_getElem? (i := 25) rfl)
theorem Wd26 {Z : State} {a0 : Array Value} (hw : HW a0 Z) : (Jvm.Cond.lays "com/example/rosewood/rosewood/RosewoodMap" "com/example/rosewood/rosewood/RosewoodMap" "root" "Lcom/example/rosewood/rosewood/RosewoodMap$Node;").before a0 Z = true := hw _ (List.mem_of_getElem? (i := 26) rfl)
theorem Wd29 {Z : State} {a0 : Array Value} (hw : HW a0 Z) : (Jvm.Cond.initialized "java/lang/Integer").before a0 Z = true := hw _ (List.mem_of_getElem? (i := 29) rfl)
theorem Wd48 {Z : State} {a0 : Array Value} (hw : HW a0 Z) : (Jvm.Cond.classLink "com/example/rosewood/rosewood/RosewoodMap" 263 "java/lang/Comparable").before a0 Z = true := hw _ (List.mem_of_getElem? (i := 48) rfl)
theorem Wd49 {Z : State} {a0 : Array Value} (hw : HW a0 Z) : (Jvm.Cond.castable "java/lang/Integer" "java/lang/Comparable").before a0 Z = true := hw _ (List.mem_of_getElem? (i := 49) rfl)
theorem Wd52 {Z : State} {a0 : Array Value} (hw : HW a0 Z) : (Jvm.Cond.interfaceMethod "java/lang/Comparable" "java/lang/Comparable" "compareTo" "(Ljava/lang/Object;)I").before a0 Z = true := hw _ (List.mem_of_getElem? (i := 52) rfl)
theorem Wd58 {Z : State} {a0 : Array Value} (hw : HW a0 Z) : (Jvm.Cond.classLink "java/lang/Integer" 1 "java/lang/Integer").before a0 Z = true := hw _ (List.mem_of_getElem? (i := 58) rfl)
theorem Wd65 {Z : State} {a0 : Array Value} (hw : HW a0 Z) : (Jvm.Cond.fieldLink "java/lang/Integer" 205 "java/lang/Integer" "value" "I").before a0 Z = true := hw _ (List.mem_of_getElem? (i := 65) rfl)
theorem Wd66 {Z : State} {a0 : Array Value} (hw : HW a0 Z) : (Jvm.Cond.laysFinal "java/lang/Integer" "java/lang/Integer" "value" "I").before a0 Z = true := hw _ (List.mem_of_getElem? (i := 66) rfl)
theorem Wd75 {Z : State} {a0 : Array Value} (hw : HW a0 Z) : (Jvm.Cond.classLink "com/example/rosewood/rosewood/RosewoodMap" 31 "com/example/rosewood/rosewood/RosewoodMap$Node").before a0 Z = true := hw _ (List.mem_of_getElem? (i := 75) rfl)
theorem Wd76 {Z : State} {a0 : Array Value} (hw : HW a0 Z) : (Jvm.Cond.instantiable "com/example/rosewood/rosewood/RosewoodMap$Node" 6).before a0 Z = true := hw _ (List.mem_of_getElem? (i := 76) rfl)
theorem Wd77 {Z : State} {a0 : Array Value} (hw : HW a0 Z) : (Jvm.Cond.initialized "com/example/rosewood/rosewood/RosewoodMap$Node").before a0 Z = true := hw _ (List.mem_of_getElem? (i := 77) rfl)
theorem Wd81 {Z : State} {a0 : Array Value} (hw : HW a0 Z) : (Jvm.Cond.methodLink "com/example/rosewood/rosewood/RosewoodMap$Node" 3 Y33).before a0 Z = true := hw _ (List.mem_of_getElem? (i := 81) rfl)
theorem Wd82 {Z : State} {a0 : Array Value} (hw : HW a0 Z) : (Jvm.Cond.constant "com/example/rosewood/rosewood/RosewoodMap$Node" 9 (-2147483648 : Int32)).before a0 Z = true := hw _ (List.mem_of_getElem? (i := 82) rfl)
theorem Wd83 {Z : State} {a0 : Array Value} (hw : HW a0 Z) : (Jvm.Cond.fieldLink "com/example/rosewood/rosewood/RosewoodMap$Node" 10 "com/example/rosewood/rosewood/RosewoodMap$Node" "redAndLeftCount" "I").before a0 Z = true := hw _ (List.mem_of_getElem? (i := 83) rfl)
theorem Wd84 {Z : State} {a0 : Array Value} (hw : HW a0 Z) : (Jvm.Cond.lays "com/example/rosewood/rosewood/RosewoodMap$Node" "com/example/rosewood/rosewood/RosewoodMap$Node" "redAndLeftCount" "I").before a0 Z = true := hw _ (List.mem_of_getElem? (i := 84) rfl)
theorem Wd85 {Z : State} {a0 : Array Value} (hw : HW a0 Z) : (Jvm.Cond.fieldLink "com/example/rosewood/rosewood/RosewoodMap$Node" 16 "com/example/rosewood/rosewood/RosewoodMap$Node" "key" "Ljava/lang/Object;").before a0 Z = true := hw _ (List.mem_of_getElem? (i := 85) rfl)
theorem Wd86 {Z : State} {a0 : Array Value} (hw : HW a0 Z) : (Jvm.Cond.lays "com/example/rosewood/rosewood/RosewoodMap$Node" "com/example/rosewood/rosewood/RosewoodMap$Node" "key" "Ljava/lang/Object;").before a0 Z = true := hw _ (List.mem_of_getElem? (i := 86) rfl)
theorem Wd87 {Z : State} {a0 : Array Value} (hw : HW a0 Z) : (Jvm.Cond.fieldLink "com/example/rosewood/rosewood/RosewoodMap$Node" 20 "com/example/rosewood/rosewood/RosewoodMap$Node" "value" "Ljava/lang/Object;").before a0 Z = true := hw _ (List.mem_of_getElem? (i := 87) rfl)
theorem Wd88 {Z : State} {a0 : Array Value} (hw : HW a0 Z) : (Jvm.Cond.lays "com/example/rosewood/rosewood/RosewoodMap$Node" "com/example/rosewood/rosewood/RosewoodMap$Node" "value" "Ljava/lang/Object;").before a0 Z = true := hw _ (List.mem_of_getElem? (i := 88) rfl)
theorem Wd89 {Z : State} {a0 : Array Value} (hw : HW a0 Z) : (Jvm.Cond.fieldLink "com/example/rosewood/rosewood/RosewoodMap$Node" 23 "com/example/rosewood/rosewood/RosewoodMap$Node" "parent" "Lcom/example/rosewood/rosewood/RosewoodMap$Node;").before a0 Z = true := hw _ (List.mem_of_getElem? (i := 89) rfl)
theorem Wd90 {Z : State} {a0 : Array Value} (hw : HW a0 Z) : (Jvm.Cond.lays "com/example/rosewood/rosewood/RosewoodMap$Node" "com/example/rosewood/rosewood/RosewoodMap$Node" "parent" "Lcom/example/rosewood/rosewood/RosewoodMap$Node;").before a0 Z = true := hw _ (List.mem_of_getElem? (i := 90) rfl)
theorem Wd94 {Z : State} {a0 : Array Value} (hw : HW a0 Z) : (Jvm.Cond.fieldLink "com/example/rosewood/rosewood/RosewoodMap" 285 "com/example/rosewood/rosewood/RosewoodMap$Node" "redAndLeftCount" "I").before a0 Z = true := hw _ (List.mem_of_getElem? (i := 94) rfl)
theorem Wd95 {Z : State} {a0 : Array Value} (hw : HW a0 Z) : (Jvm.Cond.constant "com/example/rosewood/rosewood/RosewoodMap" 289 (2147483647 : Int32)).before a0 Z = true := hw _ (List.mem_of_getElem? (i := 95) rfl)
theorem Wd96 {Z : State} {a0 : Array Value} (hw : HW a0 Z) : (Jvm.Cond.fieldLink "com/example/rosewood/rosewood/RosewoodMap" 18 "com/example/rosewood/rosewood/RosewoodMap" "size" "I").before a0 Z = true := hw _ (List.mem_of_getElem? (i := 96) rfl)
theorem Wd97 {Z : State} {a0 : Array Value} (hw : HW a0 Z) : (Jvm.Cond.lays "com/example/rosewood/rosewood/RosewoodMap" "com/example/rosewood/rosewood/RosewoodMap" "size" "I").before a0 Z = true := hw _ (List.mem_of_getElem? (i := 97) rfl)
theorem Wd98 {Z : State} {a0 : Array Value} (hw : HW a0 Z) : (Jvm.Cond.fieldLink "com/example/rosewood/rosewood/RosewoodMap" 51 "com/example/rosewood/rosewood/RosewoodMap" "modCount" "I").before a0 Z = true := hw _ (List.mem_of_getElem? (i := 98) rfl)
theorem Wd99 {Z : State} {a0 : Array Value} (hw : HW a0 Z) : (Jvm.Cond.lays "com/example/rosewood/rosewood/RosewoodMap" "com/example/rosewood/rosewood/RosewoodMap" "modCount" "I").before a0 Z = true := hw _ (List.mem_of_getElem? (i := 99) rfl)
theorem Wd100 {Z : State} {a0 : Array Value} (hw : HW a0 Z) : (Jvm.Cond.fieldLink "com/example/rosewood/rosewood/RosewoodMap" 92 "com/example/rosewood/rosewood/RosewoodMap$Node" "key" "Ljava/lang/Object;").before a0 Z = true := hw _ (List.mem_of_getElem? (i := 100) rfl)
theorem Wd101 {Z : State} {a0 : Array Value} (hw : HW a0 Z) : (Jvm.Cond.fieldLink "com/example/rosewood/rosewood/RosewoodMap" 211 "com/example/rosewood/rosewood/RosewoodMap$Node" "left" "Lcom/example/rosewood/rosewood/RosewoodMap$Node;").before a0 Z = true := hw _ (List.mem_of_getElem? (i := 101) rfl)
theorem Wd102 {Z : State} {a0 : Array Value} (hw : HW a0 Z) : (Jvm.Cond.lays "com/example/rosewood/rosewood/RosewoodMap$Node" "com/example/rosewood/rosewood/RosewoodMap$Node" "left" "Lcom/example/rosewood/rosewood/RosewoodMap$Node;").before a0 Z = true := hw _ (List.mem_of_getElem? (i := 102) rfl)
theorem Wd103 {Z : State} {a0 : Array Value} (hw : HW a0 Z) : (Jvm.Cond.fieldLink "com/example/rosewood/rosewood/RosewoodMap" 214 "com/example/rosewood/rosewood/RosewoodMap$Node" "right" "Lcom/example/rosewood/rosewood/RosewoodMap$Node;").before a0 Z = true := hw _ (List.mem_of_getElem? (i := 103) rfl)
theorem Wd104 {Z : State} {a0 : Array Value} (hw : HW a0 Z) : (Jvm.Cond.lays "com/example/rosewood/rosewood/RosewoodMap$Node" "com/example/rosewood/rosewood/RosewoodMap$Node" "right" "Lcom/example/rosewood/rosewood/RosewoodMap$Node;").before a0 Z = true := hw _ (List.mem_of_getElem? (i := 104) rfl)
theorem Wd117 {Z : State} {a0 : Array Value} (hw : HW a0 Z) : (Jvm.Cond.fieldLink "com/example/rosewood/rosewood/RosewoodMap" 282 "com/example/rosewood/rosewood/RosewoodMap$Node" "parent" "Lcom/example/rosewood/rosewood/RosewoodMap$Node;").before a0 Z = true := hw _ (List.mem_of_getElem? (i := 117) rfl)
theorem Wd121 {Z : State} {a0 : Array Value} (hw : HW a0 Z) : (Jvm.Cond.constant "com/example/rosewood/rosewood/RosewoodMap" 288 (-2147483648 : Int32)).before a0 Z = true := hw _ (List.mem_of_getElem? (i := 121) rfl)
theorem Wd144 {Z : State} {a0 : Array Value} (hw : HW a0 Z) : (Jvm.Cond.fieldLink "com/example/rosewood/rosewood/RosewoodMapFirstPinLaw" 25 "com/example/rosewood/rosewood/RosewoodMap$Node" "key" "Ljava/lang/Object;").before a0 Z = true := hw _ (List.mem_of_getElem? (i := 144) rfl)
theorem Wd145 {Z : State} {a0 : Array Value} (hw : HW a0 Z) : (Jvm.Cond.fieldLink "com/example/rosewood/rosewood/RosewoodMapFirstPinLaw" 31 "com/example/rosewood/rosewood/RosewoodMap$Node" "value" "Ljava/lang/Object;").before a0 Z = true := hw _ (List.mem_of_getElem? (i := 145) rfl)
theorem Wd146 {Z : State} {a0 : Array Value} (hw : HW a0 Z) : (Jvm.Cond.classLink "com/example/rosewood/rosewood/RosewoodMapFirstPinLaw" 12 "java/lang/Integer").before a0 Z = true := hw _ (List.mem_of_getElem? (i := 146) rfl)
theorem Wd153 {Z : State} {a0 : Array Value} (hw : HW a0 Z) : (Jvm.Cond.instantiable "java/lang/Integer" 1).before a0 Z = true := hw _ (List.mem_of_getElem? (i := 153) rfl)
section Own
variable {p : Program} {l : Launch} {e : Env} {R : Room} {s : State} {m : MethodId} {args : Array Value} {below : List Frame} {meth : Method} {c : Code} {T : State} {locs : List Loc} {cells slots : Nat}
/-- from U the run comes back to 'below' and its end is as P says -/
def Go (p : Program) (e : Env) (below : List Frame) (U : State) (P : Outcome → State → Prop) : Prop := ∃ s₂ o, Steps p.tables e below U s₂ ∧ s₂.status = .running ∧ Ended s₂ below o ∧ P o s₂
theorem Go.mp {U U' : State} {P : Outcome → State → Prop} (h : ∀ t, Steps p.tables e below U' t → Steps p.tables e below U t) (k : Go p e below U' P) : Go p e below U P := by
  obtain ⟨a, b, c, d⟩ := k; exact ⟨a, b, h _ c, d⟩
/-- how a body ends -/
def FinE (s : State) (kc ks : Nat) (Q : Option Value → Heap → List Loc → Prop) (o : Outcome) (t : State) : Prop := ∃ v L, o = .returned v ∧ Q v t.heap L ∧ FrameEnd s o t L kc ks
/-- a body's contract -/
abbrev Ctr (l : Launch) (y : MethodName) (bytes : ByteArray) (maxL : Nat) (ret : Option FieldType) (ws : List Jvm.Cond) (rm : Room) (Z : State) (as' : Array Value) (h : Heap) (Q : Option Value → Heap → List Loc → Prop) : Prop :=
  MetFree l y (head1 (Jvm.Cond.code y bytes maxL ret :: ws) rm) (fun a U => a = as' ∧ Z.Warmed39 U.vm ∧ U.heap = h) (fun _ _ _ _ _ => True) (fun _ U o U' => ∃ v L, o = .returned v ∧ Q v U'.heap L ∧ FrameEnd U o U' L rm.cells rm.slots)
theorem own_enter {y : MethodName} {bytes : ByteArray} {maxL : Nat} {ret : Option FieldType} {ws : List Jvm.Cond} {rm : Room} {Z : State} {as' : Array Value} {h : Heap} {Q : Option Value → Heap → List Loc → Prop} (hpn : plainName y.cls = true)
    (body : ∀ (p : Program) (e : Env) (s : State) (m : MethodId) (below : List Frame) (meth : Method) (c : Code) (s₁ : State), p.tables.exec = Jvm.exec → c.code = bytes → c.maxLocals = maxL → s.vm.findClass y.cls = some m.cls → meth.name = y.name → meth.sig.returnType = ret → meth.locks = false → Z.Warmed39 s.vm → Stand p l e rm s m as' below meth c s₁ [] 0 0 → s₁.heap = h →
      Go p e below (s₁.setTop (entryFrame m as' maxL)) (FinE s rm.cells rm.slots Q)) : Ctr l y bytes maxL ret ws rm Z as' h Q := by
  refine MetFree.of_bodySF (plainFor_of_name hpn) hisR ?_
  intro p e s m args below meth c s₁ Bd hml0 hP hK
  obtain ⟨rfl, hZ, hh⟩ := hP
  exact body p e s m below meth c s₁ Bd.exec Bd.bytes hml0 (findClass_of_methodNamed Bd.named) (name_of_methodNamed Bd.named Bd.method).1 Bd.returns Bd.notSynchronized hZ (Stand.of_body Bd) (by rw [← hh, Bd.state]; rfl)
theorem own_retN (X : Stand p l e R s m args below meth c T locs cells slots) (hx : p.tables.exec = Jvm.exec) {t : FieldType} (hret : meth.sig.returnType = some t) (hlk : meth.locks = false) (ht : t = .boolean ∨ t = .byte ∨ t = .char ∨ t = .short) {kc ks : Nat} {Q : Option Value → Heap → List Loc → Prop} {pc : Nat} {Ls : Array Slot} {z : Int32} {rest : List Value}
    (hd : decode c.code pc = .ok (.ireturn, 1)) (hk : cells ≤ kc) (hn : slots ≤ ks) (hq : Q (some (.int (nar t z))) T.heap locs) : Go p e below (T.setTop (mkF m pc Ls (.int z :: rest))) (FinE s kc ks Q) := by
  obtain ⟨fs, hr, hrun, hended, hW, hsame⟩ := X.leave (v := some (.int (nar t z))) (fun h => by rw [hret] at h; cases h) hlk
  exact ⟨_, _, retN X hx hret ht hd hr, hrun, hended, _, _, rfl, hq, ⟨_, rfl⟩, hW, hsame.mono hk hn⟩
theorem own_retZ (X : Stand p l e R s m args below meth c T locs cells slots) (hx : p.tables.exec = Jvm.exec) (hret : meth.sig.returnType = some .boolean) (hlk : meth.locks = false) {kc ks : Nat} {Q : Option Value → Heap → List Loc → Prop} {pc : Nat} {Ls : Array Slot} {z : Int32} {rest : List Value}
    (hd : decode c.code pc = .ok (.ireturn, 1)) (hk : cells ≤ kc) (hn : slots ≤ ks) (hz : z &&& 1 = z) (hq : Q (some (.int z)) T.heap locs) : Go p e below (T.setTop (mkF m pc Ls (.int z :: rest))) (FinE s kc ks Q) :=
  own_retN X hx hret hlk (Or.inl rfl) hd hk hn (by show Q (some (.int (z &&& 1))) T.heap locs; rw [hz]; exact hq)
theorem own_retW (X : Stand p l e R s m args below meth c T locs cells slots) (hx : p.tables.exec = Jvm.exec) {t : FieldType} {w : Value} {i : Instr} (hret : meth.sig.returnType = some t) (hlk : meth.locks = false) (hw : narrow t w = w)
    (hi : (i = .ireturn ∧ (t = .int ∨ t = .boolean ∨ t = .byte ∨ t = .char ∨ t = .short) ∧ ∃ z, w = .int z) ∨ (i = .lreturn ∧ t = .long ∧ ∃ z, w = .long z) ∨ (i = .dreturn ∧ t = .double ∧ ∃ z, w = .double z) ∨ (i = .freturn ∧ t = .float ∧ ∃ z, w = .float z) ∨ (i = .areturn ∧ t.isReference = true ∧ w.isRef = true))
    {kc ks : Nat} {Q : Option Value → Heap → List Loc → Prop} {pc : Nat} {Ls : Array Slot} {rest : List Value}
    (hd : decode c.code pc = .ok (i, 1)) (hk : cells ≤ kc) (hn : slots ≤ ks) (hq : Q (some w) T.heap locs) : Go p e below (T.setTop (mkF m pc Ls (w :: rest))) (FinE s kc ks Q) := by
  obtain ⟨fs, hr, hrun, hended, hW, hsame⟩ := X.leave (v := some w) (fun h => by rw [hret] at h; cases h) hlk
  exact ⟨_, _, retOut X hx hret hw hi hd hr, hrun, hended, _, _, rfl, hq, ⟨_, rfl⟩, hW, hsame.mono hk hn⟩
theorem own_retI (X : Stand p l e R s m args below meth c T locs cells slots) (hx : p.tables.exec = Jvm.exec) (hret : meth.sig.returnType = some .int) (hlk : meth.locks = false) {kc ks : Nat} {Q : Option Value → Heap → List Loc → Prop} {pc : Nat} {Ls : Array Slot} {z : Int32} {rest : List Value}
    (hd : decode c.code pc = .ok (.ireturn, 1)) (hk : cells ≤ kc) (hn : slots ≤ ks) (hq : Q (some (.int z)) T.heap locs) : Go p e below (T.setTop (mkF m pc Ls (.int z :: rest))) (FinE s kc ks Q) :=
  own_retW X hx hret hlk rfl (Or.inl ⟨rfl, Or.inl rfl, _, rfl⟩) hd hk hn hq
theorem own_retA (X : Stand p l e R s m args below meth c T locs cells slots) (hx : p.tables.exec = Jvm.exec) {t : FieldType} (hret : meth.sig.returnType = some t) (hlk : meth.locks = false) (ht : t.isReference = true) {w : Value} (hw : w.isRef = true) {kc ks : Nat} {Q : Option Value → Heap → List Loc → Prop} {pc : Nat} {Ls : Array Slot} {rest : List Value}
    (hd : decode c.code pc = .ok (.areturn, 1)) (hk : cells ≤ kc) (hn : slots ≤ ks) (hq : Q (some w) T.heap locs) : Go p e below (T.setTop (mkF m pc Ls (w :: rest))) (FinE s kc ks Q) :=
  own_retW X hx hret hlk (by cases t <;> first | (cases ht; done) | (cases w <;> first | rfl | cases hw)) (Or.inr (Or.inr (Or.inr (Or.inr ⟨rfl, ht, hw⟩)))) hd hk hn hq
theorem own_retV (X : Stand p l e R s m args below meth c T locs cells slots) (hx : p.tables.exec = Jvm.exec) (hret : meth.sig.returnType = none) (hlk : meth.locks = false) {kc ks : Nat} {Q : Option Value → Heap → List Loc → Prop} {pc : Nat} {Ls : Array Slot}
    (hd : decode c.code pc = .ok (.return_, 1)) (hk : cells ≤ kc) (hn : slots ≤ ks) (hq : Q none T.heap locs) : Go p e below (T.setTop (mkF m pc Ls [])) (FinE s kc ks Q) := by
  obtain ⟨fs, hr, hrun, hended, hW, hsame⟩ := X.leave (v := none) (fun _ => rfl) hlk
  exact ⟨_, _, X.returnOut hx hret hd hr, hrun, hended, _, _, rfl, hq, ⟨_, rfl⟩, hW, hsame.mono hk hn⟩
/-- the wide end (behind a cold ldc of a String) -/
def FinW (s : State) (kc ks : Nat) (Q : Option Value → Heap → List Loc → Prop) (o : Outcome) (t : State) : Prop := ∃ v L, o = .returned v ∧ Q v t.heap L ∧ ReturnedEndW s o t L kc ks
abbrev CtrW (l : Launch) (y : MethodName) (bytes : ByteArray) (maxL : Nat) (ret : Option FieldType) (ws : List Jvm.Cond) (rm : Room) (Z : State) (as' : Array Value) (h : Heap) (Q : Option Value → Heap → List Loc → Prop) : Prop :=
  MetFree l y (head1 (Jvm.Cond.code y bytes maxL ret :: ws) rm) (fun a U => a = as' ∧ Z.Warmed39 U.vm ∧ U.heap = h) (fun _ _ _ _ _ => True) (fun _ U o U' => ∃ v L, o = .returned v ∧ Q v U'.heap L ∧ ReturnedEndW U o U' L rm.cells rm.slots)
theorem own_enterW {y : MethodName} {bytes : ByteArray} {maxL : Nat} {ret : Option FieldType} {ws : List Jvm.Cond} {rm : Room} {Z : State} {as' : Array Value} {h : Heap} {Q : Option Value → Heap → List Loc → Prop} (hpn : plainName y.cls = true)
    (body : ∀ (p : Program) (e : Env) (s : State) (m : MethodId) (below : List Frame) (meth : Method) (c : Code) (s₁ : State), p.tables.exec = Jvm.exec → c.code = bytes → c.maxLocals = maxL → s.vm.findClass y.cls = some m.cls → meth.name = y.name → meth.sig.returnType = ret → meth.locks = false → Z.Warmed39 s.vm → Stand p l e rm s m as' below meth c s₁ [] 0 0 → s₁.heap = h →
      Go p e below (s₁.setTop (entryFrame m as' maxL)) (FinW s rm.cells rm.slots Q)) : CtrW l y bytes maxL ret ws rm Z as' h Q := by
  refine MetFree.of_bodySF (plainFor_of_name hpn) hisR ?_
  intro p e s m args below meth c s₁ Bd hml0 hP hK
  obtain ⟨rfl, hZ, hh⟩ := hP
  exact body p e s m below meth c s₁ Bd.exec Bd.bytes hml0 (findClass_of_methodNamed Bd.named) (name_of_methodNamed Bd.named Bd.method).1 Bd.returns Bd.notSynchronized hZ (Stand.of_body Bd) (by rw [← hh, Bd.state]; rfl)
theorem own_retZW {vm1 : Vm} {k1 : Nat} (X : Stand p l e R (s.setVm vm1) m args below meth c T locs cells slots) (hx : p.tables.exec = Jvm.exec) (hret : meth.sig.returnType = some .boolean) (hlk : meth.locks = false) (hS : s.Since vm1 k1) (hB : k1 ≤ T.heap.size) {kc ks : Nat} {Q : Option Value → Heap → List Loc → Prop} {pc : Nat} {Ls : Array Slot} {z : Int32} {rest : List Value}
    (hd : decode c.code pc = .ok (.ireturn, 1)) (hk : cells ≤ kc) (hn : slots ≤ ks) (hz : z &&& 1 = z) (hq : Q (some (.int z)) T.heap locs) : Go p e below (T.setTop (mkF m pc Ls (.int z :: rest))) (FinW s kc ks Q) := by
  obtain ⟨fs, hr, hrun, hended, h1, h2, h3, h4⟩ := X.leaveW hS hB (v := some (.int (nar .boolean z))) (fun h => by rw [hret] at h; cases h) hlk
  have e1 : nar .boolean z = z := hz
  exact ⟨_, _, retN X hx hret (Or.inl rfl) hd hr, hrun, hended, _, _, rfl, by rw [e1]; exact hq, h1, h2, h3, h4.mono hk hn⟩
section Calls
variable {Z : State} {a0 : Array Value} {h : Heap} {y : MethodName} {bytes : ByteArray} {maxL : Nat} {ret : Option FieldType} {rm : Room} {as' : Array Value} {Q : Option Value → Heap → List Loc → Prop} {own : String} {index : Nat} {pc : Nat} {Ls : Array Slot} {st argsL rest : List Value} {ps : List FieldType} {r : Option FieldType}
theorem own_callS (X : Stand p l e R s m args below meth c T locs cells slots) (hx : p.tables.exec = Jvm.exec) (hZ : Z.Warmed39 s.vm) (hown : s.vm.findClass own = some m.cls) (w1 : (Jvm.Cond.methodLink own index y).before a0 Z = true) (w2 : (Jvm.Cond.static y).before a0 Z = true) (w3 : (Jvm.Cond.initialized y.cls).before a0 Z = true) (w4 : (Jvm.Cond.code y bytes maxL ret).before a0 Z = true)
    (hy : y.cls ≠ "java/lang/invoke/MethodHandle" ∧ y.cls ≠ "java/lang/invoke/VarHandle") (hM : Ctr l y bytes maxL ret [] rm Z as' h Q) (eT : T.heap = h) (hpd : parseMethodDescriptor y.desc = some ⟨ps, r⟩) (hd : decode c.code pc = .ok (.invokestatic index, 3)) (hsize : Ls.size = c.maxLocals)
    (hlen : argsL.length = ps.length) (hst : st = argsL.reverse ++ rest) (has : argsL.toArray = as') {W : Nat} (hW : (rest.map fun v => v.category).sum ≤ W) (hR : rm.frames + 1 ≤ R.frames ∧ W + (maxL + 11) + rm.locals ≤ R.locals ∧ cells + rm.cells ≤ R.cells ∧ slots + rm.slots ≤ R.slots) :
    ∃ v T' L, Stand p l e R s m args below meth c T' (locs ++ L) (cells + rm.cells) (slots + rm.slots) ∧ Q v T'.heap L ∧ ∀ target, Steps p.tables e below (T'.setTop (mkF m (pc + 3) Ls (v.toList ++ rest))) target → Steps p.tables e below (T.setTop (mkF m pc Ls st)) target := by
  obtain ⟨hf, hl, hc, hs⟩ := hR
  obtain ⟨v, _, ⟨T', L', k', n'⟩, -, X', ⟨Lc, hQ, l1, y1, z1⟩, st'⟩ := Jvm.LawKit.callS X hx (y := y) hown (mvT hZ w1) (mvT hZ w2) (mvT hZ w3) (mvT hZ w4) hy (backOf (W := W) hM hZ w4 w3 hf hl) (g := mkF m pc Ls st) rfl hsize (argsL := argsL) (rest := rest) (lenOf hpd hlen) hst (by show 2 * 0 + _ ≤ _; omega) hd (fun _ _ => ⟨has, eT, hc, hs⟩)
  dsimp only [Pt.U, Pt.locs, Pt.cells, Pt.slots] at X' l1 y1 z1 st' hQ
  subst l1 y1 z1
  exact ⟨v, T', Lc, X', hQ, st'⟩
theorem own_callV {C : String} {b : Addr} (X : Stand p l e R s m args below meth c T locs cells slots) (hx : p.tables.exec = Jvm.exec) (hZ : Z.Warmed39 s.vm) (hown : s.vm.findClass own = some m.cls) (w1 : (Jvm.Cond.methodLink own index y).before a0 Z = true) (w2 : (Jvm.Cond.declares y).before a0 Z = true) (w3 : (Jvm.Cond.selects C y y).before a0 Z = true) (w4 : (Jvm.Cond.instanceMethod y).before a0 Z = true)
    (w5 : (Jvm.Cond.code y bytes maxL ret).before a0 Z = true) (w6 : (Jvm.Cond.initialized y.cls).before a0 Z = true) (hy : y.cls ≠ "java/lang/invoke/MethodHandle" ∧ y.cls ≠ "java/lang/invoke/VarHandle") (hM : Ctr l y bytes maxL ret [] rm Z as' h Q) (eT : T.heap = h) (E : Exa Z h b C) (hpd : parseMethodDescriptor y.desc = some ⟨ps, r⟩) (hd : decode c.code pc = .ok (.invokevirtual index, 3)) (hsize : Ls.size = c.maxLocals)
    (hlen : argsL.length = ps.length) (hst : st = argsL.reverse ++ .ref b :: rest) (has : (.ref b :: argsL).toArray = as') {W : Nat} (hW : (rest.map fun v => v.category).sum ≤ W) (hR : rm.frames + 1 ≤ R.frames ∧ W + (maxL + 11) + rm.locals ≤ R.locals ∧ cells + rm.cells ≤ R.cells ∧ slots + rm.slots ≤ R.slots) :
    ∃ v T' L, Stand p l e R s m args below meth c T' (locs ++ L) (cells + rm.cells) (slots + rm.slots) ∧ Q v T'.heap L ∧ ∀ target, Steps p.tables e below (T'.setTop (mkF m (pc + 3) Ls (v.toList ++ rest))) target → Steps p.tables e below (T.setTop (mkF m pc Ls st)) target := by
  obtain ⟨hf, hl, hc, hs⟩ := hR
  obtain ⟨cq, kq, qa, qb, qc⟩ := isOf hZ eT E
  obtain ⟨v, _, ⟨T', L', k', n'⟩, -, X', ⟨Lc, hQ, l1, y1, z1⟩, st'⟩ := X.virtualBack hx (y := y) (z := y) hown (mvT hZ w1) (mvT hZ w2) (notFace_of_selects (args := #[]) (mvT hZ w3)) (mvT hZ w3) (mvT hZ w4) hy (backOf (W := W) hM hZ w5 w6 hf hl) qa qc (g := mkF m pc Ls st) rfl hsize (Steps.refl _) (argsL := argsL) (rest := rest) (lenOf hpd hlen) hst (by show 2 * 0 + _ ≤ _; omega) hd (fun _ _ => ⟨has, eT, hc, hs⟩)
  dsimp only [Pt.U, Pt.locs, Pt.cells, Pt.slots] at X' l1 y1 z1 st' hQ
  subst l1 y1 z1
  exact ⟨v, T', Lc, X', hQ, fun t k => st'.trans k⟩
theorem own_callI {b : Addr} (X : Stand p l e R s m args below meth c T locs cells slots) (hx : p.tables.exec = Jvm.exec) (hZ : Z.Warmed39 s.vm) (hown : s.vm.findClass own = some m.cls) (w1 : (Jvm.Cond.methodLink own index y).before a0 Z = true) (w4 : (Jvm.Cond.instanceMethod y).before a0 Z = true)
    (w5 : (Jvm.Cond.code y bytes maxL none).before a0 Z = true) (w6 : (Jvm.Cond.initialized y.cls).before a0 Z = true) (hn : y.name = "<init>") (hy : y.cls ≠ "java/lang/invoke/MethodHandle" ∧ y.cls ≠ "java/lang/invoke/VarHandle") (hM : Ctr l y bytes maxL none [] rm Z as' h Q) (eT : T.heap = h) (hpd : parseMethodDescriptor y.desc = some ⟨ps, r⟩) (hd : decode c.code pc = .ok (.invokespecial index, 3)) (hsize : Ls.size = c.maxLocals)
    (hlen : argsL.length = ps.length) (hst : st = argsL.reverse ++ .ref b :: rest) (has : (.ref b :: argsL).toArray = as') {W : Nat} (hW : (rest.map fun v => v.category).sum ≤ W) (hR : rm.frames + 1 ≤ R.frames ∧ W + (maxL + 11) + rm.locals ≤ R.locals ∧ cells + rm.cells ≤ R.cells ∧ slots + rm.slots ≤ R.slots) :
    ∃ v T' L, Stand p l e R s m args below meth c T' (locs ++ L) (cells + rm.cells) (slots + rm.slots) ∧ Q v T'.heap L ∧ ∀ target, Steps p.tables e below (T'.setTop (mkF m (pc + 3) Ls (v.toList ++ rest))) target → Steps p.tables e below (T.setTop (mkF m pc Ls st)) target := by
  obtain ⟨hf, hl, hc, hs⟩ := hR
  obtain ⟨v, _, ⟨T', L', k', n'⟩, -, X', ⟨Lc, hQ, l1, y1, z1⟩, st'⟩ := X.specialBack hx (y := y) hn hown (mvT hZ w1) (mvT hZ w4) (mvT hZ w5) hy (backOf (W := W) hM hZ w5 w6 hf hl) (g := mkF m pc Ls st) rfl hsize (Steps.refl _) (a := b) (argsL := argsL) (rest := rest) (lenOf hpd hlen) hst (by show 2 * 0 + _ ≤ _; omega) hd (fun _ _ => ⟨has, eT, hc, hs⟩)
  dsimp only [Pt.U, Pt.locs, Pt.cells, Pt.slots] at X' l1 y1 z1 st' hQ
  subst l1 y1 z1
  exact ⟨v, T', Lc, X', hQ, fun t k => st'.trans k⟩
end Calls
section Facts
variable {Z : State} {h : Heap} {a b : Addr} {C F D K O n d : String} {v w : Value}
theorem own_fld_fun (F1 : Fld Z h a C n d v) (F2 : Fld Z h a C n d w) : v = w := by
  obtain ⟨c1, cf1, k1, i1, f1, h1, h2, h3, h4, h5, h6, h7⟩ := F1
  obtain ⟨c2, cf2, k2, i2, f2, g1, g2, g3, g4, g5, g6, g7⟩ := F2
  cases h1.symm.trans g1
  cases h2.symm.trans g2
  exact Option.some.inj (h7.symm.trans g7)
theorem own_ne {i j : Int32} (F1 : Fld Z h a C n d (.int i)) (F2 : Fld Z h b C n d (.int j)) (hij : i ≠ j) : a ≠ b := fun e => by
  subst e; exact hij (Value.int.inj (own_fld_fun F1 F2))
theorem own_sta {args : Array Value} (hn : (Jvm.Cond.exactly (.static C F D) K).value args Z none Z [] = some true) (hi : (Jvm.Cond.initialized C).before args Z = true) (hl : (Jvm.Cond.laysStatic C F D).before args Z = true) :
    ∃ w : Addr, Sta Z Z.heap C F D (.ref w) ∧ Exa Z Z.heap w K ∧ (Term.static C F D).eval args Z none [] Z = some (.ref w) := by
  obtain ⟨a', c', cell, k, e1, -⟩ := Cond.exactly_spec (Cond.before_iff.mpr hn)
  exact ⟨a', Sta.start e1 (Or.inr ⟨hi, hl⟩), Exa.start e1 hn, e1⟩
theorem own_ord {args : Array Value} {k : Int32} {t : Term} (hn : (Jvm.Cond.eq (.field t O n d) (.int k)).value args Z none Z [] = some true) (ev : t.eval args Z none [] Z = some (.ref a)) : Fld Z Z.heap a O n d (.int k) := by
  refine Fld.start ?_
  simp only [Jvm.Cond.value, Term.eval, ev] at hn
  cases hq : Z.fieldOf? a O n d with
  | none => simp [hq] at hn
  | some v => cases v <;> simp_all
theorem own_fref {args : Array Value} {t u : Term} (hn : (Jvm.Cond.eq (.field t O n d) u).value args Z none Z [] = some true) (ev : t.eval args Z none [] Z = some (.ref a)) (eu : u.eval args Z none [] Z = some (.ref b)) : Fld Z Z.heap a O n d (.ref b) := by
  refine Fld.start ?_
  simp only [Jvm.Cond.value, Term.eval, ev, eu] at hn
  cases hq : Z.fieldOf? a O n d with
  | none => simp [hq] at hn
  | some v => cases v <;> simp_all
theorem own_arrOf {args : Array Value} {t : Term} {ty : FieldType} (hn : (Jvm.Cond.arrayOf t ty).value args Z none Z [] = some true) : ∃ a c, t.eval args Z none [] Z = some (.ref a) ∧ Arr Z Z.heap a c ty := by
  cases hq : t.eval args Z none [] Z with
  | none => simp [Jvm.Cond.value, hq] at hn
  | some v =>
    cases v with
    | ref a => obtain ⟨c, A⟩ := Arr.start hq hn; exact ⟨a, c, rfl, A⟩
    | _ => simp [Jvm.Cond.value, hq] at hn
theorem own_arrLen {args : Array Value} {t : Term} {ty : FieldType} {cl : Cell} {k : Int32} (A : Arr Z Z.heap a cl ty) (ev : t.eval args Z none [] Z = some (.ref a)) (hn : (Jvm.Cond.eq (.length t) (.int k)).value args Z none Z [] = some true) : cl.slots.size < 2 ^ 31 ∧ cl.slots.size.toInt32 = k := by
  have hA : Z.arrayAt? a = some cl := A.fin (Vm.Alike.refl _)
  by_cases q : cl.slots.size < 2 ^ 31
  · refine ⟨q, ?_⟩
    have e : (Term.length t).eval args Z none [] Z = some (.int cl.slots.size.toInt32) := by simp [Term.eval, ev, hA, q]
    have e2 : (Term.int k).eval args Z none [] Z = some (.int k) := rfl
    simp only [Jvm.Cond.value, e, e2] at hn
    simpa using hn
  · have e : (Term.length t).eval args Z none [] Z = none := by simp [Term.eval, ev, hA, q]
    simp [Jvm.Cond.value, e] at hn
theorem own_arrElem {args : Array Value} {t u : Term} {ty : FieldType} {cl : Cell} {j : Int32} (A : Arr Z Z.heap a cl ty) (ev : t.eval args Z none [] Z = some (.ref a)) (eu : u.eval args Z none [] Z = some (.ref b)) (hj : ¬ j < 0) (hn : (Jvm.Cond.eq (.elem t (.int j)) u).value args Z none Z [] = some true) : cl.slots[j.toNatClampNeg]? = some (.ref b) := by
  have hA : Z.arrayAt? a = some cl := A.fin (Vm.Alike.refl _)
  have e : (Term.elem t (.int j)).eval args Z none [] Z = cl.slots[j.toNatClampNeg]? := by simp [Term.eval, ev, hA, hj]
  cases hq : cl.slots[j.toNatClampNeg]? with
  | none => rw [hq] at e; simp [Jvm.Cond.value, e] at hn
  | some v => rw [hq] at e; simp only [Jvm.Cond.value, e, eu] at hn; cases v <;> simp_all
theorem own_zand (x : Int32) : (0 : Int32) &&& x = (0 : Int32) := Int32.zero_and
theorem own_nin {x a : Addr} {ws : List Addr} (h : x ≠ a) (k : x ∉ ws) : x ∉ a :: ws := fun q => (List.mem_cons.mp q).elim h k
theorem own_plain {K : String} {ws : List Addr} (E : Exa Z h a K) (k : ∀ x ∈ ws, ∃ K', Exa Z h x K') : ∀ x ∈ a :: ws, ∃ K', Exa Z h x K' := fun x q => (List.mem_cons.mp q).elim (fun e => ⟨K, e ▸ E⟩) (k x)
theorem own_sta_keep {h' : Heap} {ws : List Addr} (S : Sta Z h C n d v) (K : Keep h h' ws) (hp : ∀ x ∈ ws, ∃ K', Exa Z h x K') : Sta Z h' C n d v := by
  obtain ⟨cf, i, k, f, st, cell, h1, h2, h3, h4, h5, h6, h7⟩ := S
  refine ⟨cf, i, k, f, st, cell, h1, h2, h3, h4, K.2.1 _ _ h5 fun q => ?_, h6, h7⟩
  obtain ⟨K', cl, kk, e1, -, -, e4, -⟩ := hp _ q
  cases h5.symm.trans e1
  rw [e4] at h6; cases h6
theorem own_mem1 {h0 : Heap} {ws : List Addr} {a : Addr} (q : a ∈ ws ∨ h0.size ≤ a) : ∀ x ∈ [a], x ∈ ws ∨ h0.size ≤ x := fun x hx => by cases List.mem_singleton.mp hx; exact q
theorem own_mem2 {h0 : Heap} {ws : List Addr} {a b : Addr} (q : a ∈ ws ∨ h0.size ≤ a) (r : b ∈ ws ∨ h0.size ≤ b) : ∀ x ∈ [a, b], x ∈ ws ∨ h0.size ≤ x := fun x hx => by
  rcases List.mem_cons.mp hx with rfl | hx
  · exact q
  · cases List.mem_singleton.mp hx; exact r
theorem own_fitR {ty : FieldType} (ht : ty.isReference = true) (hv : v.isRef = true) : fits ty v = true := by cases ty <;> first | (cases ht; done) | (cases v <;> first | rfl | cases hv)
theorem own_narR {ty : FieldType} (ht : ty.isReference = true) (hv : v.isRef = true) : narrow ty v = v := by cases ty <;> first | (cases ht; done) | (cases v <;> first | rfl | cases hv)
theorem own_bit {z : Int32} (hz : z = 0 ∨ z = 1) : z &&& 1 = z := by rcases hz with rfl | rfl <;> decide
theorem own_narZ {z : Int32} (hz : z = 0 ∨ z = 1) : narrow .boolean (.int z) = .int z := by rcases hz with rfl | rfl <;> rfl
theorem own_fitZ {z : Int32} (hz : z = 0 ∨ z = 1) : fits .boolean (.int z) = true := by rcases hz with rfl | rfl <;> rfl
theorem own_pad {dv : Value} (k : Nat) (i : Nat) : (List.replicate k dv).getD i dv = ([] : List Value).getD i dv := by
  simp only [List.getD, List.getElem?_replicate]
  split <;> rfl
end Facts
end Own
section G
variable {p : Program} {l : Launch} {e : Env} {R : Room} {s : State} {m : MethodId} {args : Array Value} {below : List Frame} {meth : Method} {c : Code} {T : State} {locs : List Loc} {cells slots : Nat} {pc : Nat} {Ls : Array Slot} {st : List Value} {P : Outcome → State → Prop}
theorem g_iloadN (X : Stand p l e R s m args below meth c T locs cells slots) (hx : p.tables.exec = Jvm.exec) {k : Fin 4} {v : Int32} (hd : decode c.code pc = .ok (.iload_n k, 1)) (hl : Ls[k.val]? = some (.val (.int v))) (hr : Go p e below (T.setTop (mkF m (pc + 1) Ls (.int v :: st))) P) : Go p e below (T.setTop (mkF m pc Ls st)) P := Go.mp (fun _ k => XS.iloadN X.here hx rfl hd hl k) hr
theorem g_iload (X : Stand p l e R s m args below meth c T locs cells slots) (hx : p.tables.exec = Jvm.exec) {k : Nat} {v : Int32} (hd : decode c.code pc = .ok (.iload k, 2)) (hl : Ls[k]? = some (.val (.int v))) (hr : Go p e below (T.setTop (mkF m (pc + 2) Ls (.int v :: st))) P) : Go p e below (T.setTop (mkF m pc Ls st)) P := Go.mp (fun _ k => XS.iload X.here hx rfl hd hl k) hr
theorem g_lloadN (X : Stand p l e R s m args below meth c T locs cells slots) (hx : p.tables.exec = Jvm.exec) {k : Fin 4} {v : Int64} (hd : decode c.code pc = .ok (.lload_n k, 1)) (hl : Ls[k.val]? = some (.val (.long v))) (hr : Go p e below (T.setTop (mkF m (pc + 1) Ls (.long v :: st))) P) : Go p e below (T.setTop (mkF m pc Ls st)) P := Go.mp (fun _ k => XS.lloadN X.here hx rfl hd hl k) hr
theorem g_lload (X : Stand p l e R s m args below meth c T locs cells slots) (hx : p.tables.exec = Jvm.exec) {k : Nat} {v : Int64} (hd : decode c.code pc = .ok (.lload k, 2)) (hl : Ls[k]? = some (.val (.long v))) (hr : Go p e below (T.setTop (mkF m (pc + 2) Ls (.long v :: st))) P) : Go p e below (T.setTop (mkF m pc Ls st)) P := Go.mp (fun _ k => XS.lload X.here hx rfl hd hl k) hr
theorem g_aloadN (X : Stand p l e R s m args below meth c T locs cells slots) (hx : p.tables.exec = Jvm.exec) {k : Fin 4} {v : Value} (hd : decode c.code pc = .ok (.aload_n k, 1)) (hl : Ls[k.val]? = some (.val v)) (hv : v.isRef = true) (hr : Go p e below (T.setTop (mkF m (pc + 1) Ls (v :: st))) P) : Go p e below (T.setTop (mkF m pc Ls st)) P := Go.mp (fun _ k => XS.aloadN X.here hx rfl hd hl hv k) hr
theorem g_aload (X : Stand p l e R s m args below meth c T locs cells slots) (hx : p.tables.exec = Jvm.exec) {k : Nat} {v : Value} (hd : decode c.code pc = .ok (.aload k, 2)) (hl : Ls[k]? = some (.val v)) (hv : v.isRef = true) (hr : Go p e below (T.setTop (mkF m (pc + 2) Ls (v :: st))) P) : Go p e below (T.setTop (mkF m pc Ls st)) P := Go.mp (fun _ k => XS.aload X.here hx rfl hd hl hv k) hr
theorem g_istoreN (X : Stand p l e R s m args below meth c T locs cells slots) (hx : p.tables.exec = Jvm.exec) {k : Fin 4} {v : Int32} (l' : Array Slot) (hd : decode c.code pc = .ok (.istore_n k, 1)) (hl : storeLocals Ls k.val (.int v) = some l') (hr : Go p e below (T.setTop (mkF m (pc + 1) l' st)) P) : Go p e below (T.setTop (mkF m pc Ls (.int v :: st))) P := Go.mp (fun _ k => XS.istoreN X.here hx rfl hd rfl hl k) hr
theorem g_istore (X : Stand p l e R s m args below meth c T locs cells slots) (hx : p.tables.exec = Jvm.exec) {k : Nat} {v : Int32} (l' : Array Slot) (hd : decode c.code pc = .ok (.istore k, 2)) (hl : storeLocals Ls k (.int v) = some l') (hr : Go p e below (T.setTop (mkF m (pc + 2) l' st)) P) : Go p e below (T.setTop (mkF m pc Ls (.int v :: st))) P := Go.mp (fun _ k => XS.istore X.here hx rfl hd rfl hl k) hr
theorem g_astoreN (X : Stand p l e R s m args below meth c T locs cells slots) (hx : p.tables.exec = Jvm.exec) {k : Fin 4} {v : Value} (l' : Array Slot) (hd : decode c.code pc = .ok (.astore_n k, 1)) (hv : v.isRef = true) (hl : storeLocals Ls k.val v = some l') (hr : Go p e below (T.setTop (mkF m (pc + 1) l' st)) P) : Go p e below (T.setTop (mkF m pc Ls (v :: st))) P := Go.mp (fun _ k => XS.astoreN X.here hx rfl hd rfl hv hl k) hr
theorem g_astore (X : Stand p l e R s m args below meth c T locs cells slots) (hx : p.tables.exec = Jvm.exec) {k : Nat} {v : Value} (l' : Array Slot) (hd : decode c.code pc = .ok (.astore k, 2)) (hv : v.isRef = true) (hl : storeLocals Ls k v = some l') (hr : Go p e below (T.setTop (mkF m (pc + 2) l' st)) P) : Go p e below (T.setTop (mkF m pc Ls (v :: st))) P := Go.mp (fun _ k => XS.astore X.here hx rfl hd rfl hv hl k) hr
theorem g_iconst (X : Stand p l e R s m args below meth c T locs cells slots) (hx : p.tables.exec = Jvm.exec) {i : Int} (v : Int32) (hd : decode c.code pc = .ok (.iconst i, 1)) (hv : Int32.ofInt i = v) (hr : Go p e below (T.setTop (mkF m (pc + 1) Ls (.int v :: st))) P) : Go p e below (T.setTop (mkF m pc Ls st)) P := Go.mp (fun _ k => XT.iconstV X.here hx rfl v hd hv k) hr
theorem g_bipush (X : Stand p l e R s m args below meth c T locs cells slots) (hx : p.tables.exec = Jvm.exec) {i : Int} (v : Int32) (hd : decode c.code pc = .ok (.bipush i, 2)) (hv : (Int8.ofInt i).toInt32 = v) (hr : Go p e below (T.setTop (mkF m (pc + 2) Ls (.int v :: st))) P) : Go p e below (T.setTop (mkF m pc Ls st)) P := Go.mp (fun _ k => XT.bipushV X.here hx rfl v hd hv k) hr
theorem g_sipush (X : Stand p l e R s m args below meth c T locs cells slots) (hx : p.tables.exec = Jvm.exec) {i : Int} (v : Int32) (hd : decode c.code pc = .ok (.sipush i, 3)) (hv : (Int16.ofInt i).toInt32 = v) (hr : Go p e below (T.setTop (mkF m (pc + 3) Ls (.int v :: st))) P) : Go p e below (T.setTop (mkF m pc Ls st)) P := Go.mp (fun _ k => XT.sipushV X.here hx rfl v hd hv k) hr
theorem g_null (X : Stand p l e R s m args below meth c T locs cells slots) (hx : p.tables.exec = Jvm.exec) (hd : decode c.code pc = .ok (.aconst_null, 1)) (hr : Go p e below (T.setTop (mkF m (pc + 1) Ls (.null :: st))) P) : Go p e below (T.setTop (mkF m pc Ls st)) P := Go.mp (fun _ k => XS.aconstNull X.here hx rfl hd k) hr
theorem g_iadd (X : Stand p l e R s m args below meth c T locs cells slots) (hx : p.tables.exec = Jvm.exec) {x y : Int32} (hd : decode c.code pc = .ok (.iadd, 1)) (hr : Go p e below (T.setTop (mkF m (pc + 1) Ls (.int (x + y) :: st))) P) : Go p e below (T.setTop (mkF m pc Ls (.int y :: .int x :: st))) P := Go.mp (fun _ k => XS.iadd X.here hx rfl hd rfl k) hr
theorem g_isub (X : Stand p l e R s m args below meth c T locs cells slots) (hx : p.tables.exec = Jvm.exec) {x y : Int32} (hd : decode c.code pc = .ok (.isub, 1)) (hr : Go p e below (T.setTop (mkF m (pc + 1) Ls (.int (x - y) :: st))) P) : Go p e below (T.setTop (mkF m pc Ls (.int y :: .int x :: st))) P := Go.mp (fun _ k => XS.isub X.here hx rfl hd rfl k) hr
theorem g_iand (X : Stand p l e R s m args below meth c T locs cells slots) (hx : p.tables.exec = Jvm.exec) {x y : Int32} (hd : decode c.code pc = .ok (.iand, 1)) (hr : Go p e below (T.setTop (mkF m (pc + 1) Ls (.int (x &&& y) :: st))) P) : Go p e below (T.setTop (mkF m pc Ls (.int y :: .int x :: st))) P := Go.mp (fun _ k => XS.iand X.here hx rfl hd rfl k) hr
theorem g_ior (X : Stand p l e R s m args below meth c T locs cells slots) (hx : p.tables.exec = Jvm.exec) {x y : Int32} (hd : decode c.code pc = .ok (.ior, 1)) (hr : Go p e below (T.setTop (mkF m (pc + 1) Ls (.int (x ||| y) :: st))) P) : Go p e below (T.setTop (mkF m pc Ls (.int y :: .int x :: st))) P := Go.mp (fun _ k => XS.ior X.here hx rfl hd rfl k) hr
theorem g_ixor (X : Stand p l e R s m args below meth c T locs cells slots) (hx : p.tables.exec = Jvm.exec) {x y : Int32} (hd : decode c.code pc = .ok (.ixor, 1)) (hr : Go p e below (T.setTop (mkF m (pc + 1) Ls (.int (x ^^^ y) :: st))) P) : Go p e below (T.setTop (mkF m pc Ls (.int y :: .int x :: st))) P := Go.mp (fun _ k => XS.ixor X.here hx rfl hd rfl k) hr
theorem g_dup (X : Stand p l e R s m args below meth c T locs cells slots) (hx : p.tables.exec = Jvm.exec) {x : Value} (hd : decode c.code pc = .ok (.dup, 1)) (hc : x.category = 1) (hr : Go p e below (T.setTop (mkF m (pc + 1) Ls (x :: x :: st))) P) : Go p e below (T.setTop (mkF m pc Ls (x :: st))) P := Go.mp (fun _ k => XS.dup X.here hx rfl hd rfl hc k) hr
theorem g_pop (X : Stand p l e R s m args below meth c T locs cells slots) (hx : p.tables.exec = Jvm.exec) {x : Value} (hd : decode c.code pc = .ok (.pop, 1)) (hc : x.category = 1) (hr : Go p e below (T.setTop (mkF m (pc + 1) Ls st)) P) : Go p e below (T.setTop (mkF m pc Ls (x :: st))) P := Go.mp (fun _ k => XS.pop X.here hx rfl hd rfl hc k) hr
theorem g_goto (X : Stand p l e R s m args below meth c T locs cells slots) (hx : p.tables.exec = Jvm.exec) {o : Int} (pc' : Nat) (hd : decode c.code pc = .ok (.goto o, 3)) (ho : 0 ≤ (pc : Int) + o) (hp : ((pc : Int) + o).toNat = pc') (hr : Go p e below (T.setTop (mkF m pc' Ls st)) P) : Go p e below (T.setTop (mkF m pc Ls st)) P := Go.mp (fun _ k => XS.goto X.here hx rfl (pc0 := pc) (pc' := pc') rfl hd ho hp k) hr
theorem g_ifYes (X : Stand p l e R s m args below meth c T locs cells slots) (hx : p.tables.exec = Jvm.exec) {cd : ClassFile.Cond} {x : Int32} {o : Int} (pc' : Nat) (hd : decode c.code pc = .ok (.ifCond cd o, 3)) (hc : ifCond.holds cd x = true) (ho : 0 ≤ (pc : Int) + o) (hp : ((pc : Int) + o).toNat = pc') (hr : Go p e below (T.setTop (mkF m pc' Ls st)) P) : Go p e below (T.setTop (mkF m pc Ls (.int x :: st))) P := Go.mp (fun _ k => XS.ifYes X.here hx rfl (pc0 := pc) (pc' := pc') rfl hd rfl hc ho hp k) hr
theorem g_ifNo (X : Stand p l e R s m args below meth c T locs cells slots) (hx : p.tables.exec = Jvm.exec) {cd : ClassFile.Cond} {x : Int32} {o : Int} (hd : decode c.code pc = .ok (.ifCond cd o, 3)) (hc : ifCond.holds cd x = false) (hr : Go p e below (T.setTop (mkF m (pc + 3) Ls st)) P) : Go p e below (T.setTop (mkF m pc Ls (.int x :: st))) P := Go.mp (fun _ k => XS.ifNo X.here hx rfl hd rfl hc k) hr
theorem g_icmpYes (X : Stand p l e R s m args below meth c T locs cells slots) (hx : p.tables.exec = Jvm.exec) {cd : ClassFile.Cond} {x y : Int32} {o : Int} (pc' : Nat) (hd : decode c.code pc = .ok (.if_icmp cd o, 3)) (hc : if_icmp.holds cd x y = true) (ho : 0 ≤ (pc : Int) + o) (hp : ((pc : Int) + o).toNat = pc') (hr : Go p e below (T.setTop (mkF m pc' Ls st)) P) : Go p e below (T.setTop (mkF m pc Ls (.int y :: .int x :: st))) P := Go.mp (fun _ k => XS.icmpYes X.here hx rfl (pc0 := pc) (pc' := pc') rfl hd rfl hc ho hp k) hr
theorem g_icmpNo (X : Stand p l e R s m args below meth c T locs cells slots) (hx : p.tables.exec = Jvm.exec) {cd : ClassFile.Cond} {x y : Int32} {o : Int} (hd : decode c.code pc = .ok (.if_icmp cd o, 3)) (hc : if_icmp.holds cd x y = false) (hr : Go p e below (T.setTop (mkF m (pc + 3) Ls st)) P) : Go p e below (T.setTop (mkF m pc Ls (.int y :: .int x :: st))) P := Go.mp (fun _ k => XS.icmpNo X.here hx rfl hd rfl hc k) hr
theorem g_acmp (X : Stand p l e R s m args below meth c T locs cells slots) (hx : p.tables.exec = Jvm.exec) {cd : ACond} {x y : Value} {o : Int} (pc' : Nat) (same : Bool) (h1 : x.isRef = true) (h2 : y.isRef = true) (hd : decode c.code pc = .ok (.if_acmp cd o, 3)) (hq : decide (x = y) = same) (ho : 0 ≤ (pc : Int) + o) (hp : pc' = if acV cd same = true then ((pc : Int) + o).toNat else pc + 3) (hr : Go p e below (T.setTop (mkF m pc' Ls st)) P) : Go p e below (T.setTop (mkF m pc Ls (y :: x :: st))) P := Go.mp (fun _ k => Jvm.RoadKit.acmp (g := mkF m pc Ls (y :: x :: st)) X hx rfl h1 h2 (pc0 := pc) (pc' := pc') (same := same) rfl hd rfl hq ho hp k) hr
theorem g_irem (X : Stand p l e R s m args below meth c T locs cells slots) (hx : p.tables.exec = Jvm.exec) {x y : Int32} (hd : decode c.code pc = .ok (.irem, 1)) (hy : y ≠ 0) (hr : Go p e below (T.setTop (mkF m (pc + 1) Ls (.int (x % y) :: st))) P) : Go p e below (T.setTop (mkF m pc Ls (.int y :: .int x :: st))) P := Go.mp (fun _ k => iremM X hx rfl hd rfl hy k) hr
end G
section OwnP
variable {p : Program} {l : Launch} {e : Env} {R : Room} {s : State} {m : MethodId} {args : Array Value} {below : List Frame} {meth : Method} {c : Code} {T : State} {locs : List Loc} {cells slots : Nat}
/-- a contract of a body with an exception table whose walk throws nothing -/
abbrev CtrH (l : Launch) (y : MethodName) (bytes : ByteArray) (maxL : Nat) (ret : Option FieldType) (hs : List (Nat × Nat × Nat × Nat)) (rm : Room) (Z : State) (as' : Array Value) (h : Heap) (Q : Option Value → Heap → List Loc → Prop) : Prop :=
  MetFree l y (head1 [Jvm.Cond.codeWith y bytes maxL ret hs] rm) (fun a U => a = as' ∧ Z.Warmed39 U.vm ∧ U.heap = h) (fun _ _ _ _ _ => True) (fun _ U o U' => ∃ v L, o = .returned v ∧ Q v U'.heap L ∧ FrameEnd U o U' L rm.cells rm.slots)
theorem own_enterH {y : MethodName} {bytes : ByteArray} {maxL : Nat} {ret : Option FieldType} {hs : List (Nat × Nat × Nat × Nat)} {rm : Room} {Z : State} {as' : Array Value} {h : Heap} {Q : Option Value → Heap → List Loc → Prop} (hpn : plainName y.cls = true)
    (body : ∀ (p : Program) (e : Env) (s : State) (m : MethodId) (below : List Frame) (meth : Method) (c : Code) (s₁ : State), p.tables.exec = Jvm.exec → c.code = bytes → c.maxLocals = maxL → s.vm.findClass y.cls = some m.cls → meth.name = y.name → meth.sig.returnType = ret → meth.locks = false → Z.Warmed39 s.vm → Stand p l e rm s m as' below meth c s₁ [] 0 0 → s₁.heap = h →
      Go p e below (s₁.setTop (entryFrame m as' maxL)) (FinE s rm.cells rm.slots Q)) : CtrH l y bytes maxL ret hs rm Z as' h Q := by
  refine MetFree.of_bodySF (plainFor_of_name hpn) hisWith ?_
  intro p e s m args below meth c s₁ Bd hml0 hP hK
  obtain ⟨rfl, hZ, hh⟩ := hP
  exact body p e s m below meth c s₁ Bd.exec Bd.bytes hml0 (findClass_of_methodNamed Bd.named) (name_of_methodNamed Bd.named Bd.method).1 Bd.returns Bd.notSynchronized hZ (Stand.of_body Bd) (by rw [← hh, Bd.state]; rfl)
variable {Z : State} {a0 : Array Value} {h : Heap} {y : MethodName} {bytes : ByteArray} {maxL : Nat} {ret : Option FieldType} {rm : Room} {as' : Array Value} {Q : Option Value → Heap → List Loc → Prop} {own : String} {index : Nat} {pc : Nat} {Ls : Array Slot} {st argsL rest : List Value} {ps : List FieldType} {r : Option FieldType}
theorem own_sel {n : Nat} (hZ : Z.Warmed39 s.vm) (w4 : (Jvm.Cond.instanceMethod y).before a0 Z = true) (wp : (Jvm.Cond.privateMethod y).before a0 Z = true) (wi : (Jvm.Cond.instantiable y.cls n).before a0 Z = true) (hy : y.cls ≠ "java/lang/invoke/MethodHandle" ∧ y.cls ≠ "java/lang/invoke/VarHandle") : s.PrivateAt y ∧ (Jvm.Cond.selects y.cls y y).before args s = true := by
  have hp : s.PrivateAt y := Cond.privateMethod_at (mvP hZ wp (args := #[]))
  have wi' : (Jvm.Cond.instantiable y.cls n).before args s = true := mvT hZ wi
  obtain ⟨c, k, c1, c2, -, c4, -⟩ := Cond.instantiable_spec wi'
  exact ⟨hp, selects_self_of_private c1 c2 (Bool.or_eq_false_iff.mp c4).1 hp (mvT hZ w4) hy⟩
theorem own_callP {C : String} {n : Nat} {b : Addr} (X : Stand p l e R s m args below meth c T locs cells slots) (hx : p.tables.exec = Jvm.exec) (hZ : Z.Warmed39 s.vm) (hown : s.vm.findClass own = some m.cls) (w1 : (Jvm.Cond.methodLink own index y).before a0 Z = true) (w4 : (Jvm.Cond.instanceMethod y).before a0 Z = true) (wp : (Jvm.Cond.privateMethod y).before a0 Z = true) (wi : (Jvm.Cond.instantiable y.cls n).before a0 Z = true)
    (w5 : (Jvm.Cond.code y bytes maxL ret).before a0 Z = true) (w6 : (Jvm.Cond.initialized y.cls).before a0 Z = true) (hy : y.cls ≠ "java/lang/invoke/MethodHandle" ∧ y.cls ≠ "java/lang/invoke/VarHandle") (hM : Ctr l y bytes maxL ret [] rm Z as' h Q) (eT : T.heap = h) (E : Exa Z h b C) (hpd : parseMethodDescriptor y.desc = some ⟨ps, r⟩) (hd : decode c.code pc = .ok (.invokevirtual index, 3)) (hsize : Ls.size = c.maxLocals)
    (hlen : argsL.length = ps.length) (hst : st = argsL.reverse ++ .ref b :: rest) (has : (.ref b :: argsL).toArray = as') {W : Nat} (hW : (rest.map fun v => v.category).sum ≤ W) (hR : rm.frames + 1 ≤ R.frames ∧ W + (maxL + 11) + rm.locals ≤ R.locals ∧ cells + rm.cells ≤ R.cells ∧ slots + rm.slots ≤ R.slots) :
    ∃ v T' L, Stand p l e R s m args below meth c T' (locs ++ L) (cells + rm.cells) (slots + rm.slots) ∧ Q v T'.heap L ∧ ∀ target, Steps p.tables e below (T'.setTop (mkF m (pc + 3) Ls (v.toList ++ rest))) target → Steps p.tables e below (T.setTop (mkF m pc Ls st)) target := by
  obtain ⟨hf, hl, hc, hs⟩ := hR
  obtain ⟨cq, q, q'⟩ := E.cell
  obtain ⟨hp, hsel⟩ := own_sel (args := args) hZ w4 wp wi hy
  obtain ⟨v, _, ⟨T', L', k', n'⟩, -, X', ⟨Lc, hQ, l1, y1, z1⟩, st'⟩ := X.privateBack hx (y := y) hown (mvT hZ w1) (mvT hZ w4) hsel hp (mvT hZ w5) hy (backOf (W := W) hM hZ w5 w6 hf hl) (g := mkF m pc Ls st) rfl hsize (Steps.refl _) (a := b) (by rw [eT]; exact q) q' (argsL := argsL) (rest := rest) (lenOf hpd hlen) hst (by show 2 * 0 + _ ≤ _; omega) hd (fun _ _ => ⟨has, eT, hc, hs⟩)
  dsimp only [Pt.U, Pt.locs, Pt.cells, Pt.slots] at X' l1 y1 z1 st' hQ
  subst l1 y1 z1
  exact ⟨v, T', Lc, X', hQ, fun t k => st'.trans k⟩
theorem own_callPH {hs' : List (Nat × Nat × Nat × Nat)} {C : String} {n : Nat} {b : Addr} (X : Stand p l e R s m args below meth c T locs cells slots) (hx : p.tables.exec = Jvm.exec) (hZ : Z.Warmed39 s.vm) (hown : s.vm.findClass own = some m.cls) (w1 : (Jvm.Cond.methodLink own index y).before a0 Z = true) (w4 : (Jvm.Cond.instanceMethod y).before a0 Z = true) (wp : (Jvm.Cond.privateMethod y).before a0 Z = true) (wi : (Jvm.Cond.instantiable y.cls n).before a0 Z = true)
    (w5 : (Jvm.Cond.codeWith y bytes maxL ret hs').before a0 Z = true) (w6 : (Jvm.Cond.initialized y.cls).before a0 Z = true) (hy : y.cls ≠ "java/lang/invoke/MethodHandle" ∧ y.cls ≠ "java/lang/invoke/VarHandle") (hM : CtrH l y bytes maxL ret hs' rm Z as' h Q) (eT : T.heap = h) (E : Exa Z h b C) (hpd : parseMethodDescriptor y.desc = some ⟨ps, r⟩) (hd : decode c.code pc = .ok (.invokevirtual index, 3)) (hsize : Ls.size = c.maxLocals)
    (hlen : argsL.length = ps.length) (hst : st = argsL.reverse ++ .ref b :: rest) (has : (.ref b :: argsL).toArray = as') {W : Nat} (hW : (rest.map fun v => v.category).sum ≤ W) (hR : rm.frames + 1 ≤ R.frames ∧ W + (maxL + 11) + rm.locals ≤ R.locals ∧ cells + rm.cells ≤ R.cells ∧ slots + rm.slots ≤ R.slots) :
    ∃ v T' L, Stand p l e R s m args below meth c T' (locs ++ L) (cells + rm.cells) (slots + rm.slots) ∧ Q v T'.heap L ∧ ∀ target, Steps p.tables e below (T'.setTop (mkF m (pc + 3) Ls (v.toList ++ rest))) target → Steps p.tables e below (T.setTop (mkF m pc Ls st)) target := by
  obtain ⟨hf, hl, hc, hs⟩ := hR
  obtain ⟨cq, q, q'⟩ := E.cell
  obtain ⟨hp, hsel⟩ := own_sel (args := args) hZ w4 wp wi hy
  have w4' : (Jvm.Cond.instanceMethod y).before args s = true := mvT hZ w4
  obtain ⟨mk, methM, hnamed, hmethM, hstM, habM⟩ := Cond.instanceMethod_spec w4'
  obtain ⟨c2, r2, m2, -, -, q3, -, kP, hkP, hkPi⟩ := Cond.selects_spec hsel
  cases hnamed.symm.trans q3
  have w5' : (Jvm.Cond.codeWith y bytes maxL ret hs').before args s = true := mvT hZ w5
  obtain ⟨mk', methM', cM, hnamed', hmethM', -, -, -, -, -, -, hsigM⟩ := Cond.codeWith_spec w5'
  cases hnamed.symm.trans hnamed'
  cases hmethM.symm.trans hmethM'
  have hselP : selectMethod e.platform s.vm cq.cls mk = .method mk := selectMethod_private hmethM (hp mk methM hnamed hmethM)
  obtain ⟨vm₁, X₁, hstep₁⟩ := X.invokevirtual hx hown (mvT hZ w1) hnamed hmethM hstM hkP hkPi hy (a := b) (cell := cq) (by rw [eT]; exact q) q' hselP hmethM habM hkP hkPi (g := mkF m pc Ls st) rfl (argsL := argsL) (rest := rest) ((lenOf hpd hlen) _ hsigM) hst hd
  obtain ⟨v, ⟨T', L', k', n'⟩, X', ⟨Lc, hQ, l1, y1, z1⟩, hsteps⟩ := (backOfWith (W := W) (len := 3) (p := p) (e := e) (below := below) (args := args) (R := R) hM hZ w5 w6 hf hl) m meth c ⟨T.setVm vm₁, locs, cells, slots⟩ (mkF m pc Ls rest) (.invokevirtual index) mk (.ref b :: argsL).toArray X₁ rfl hsize hd (by show 2 * 0 + (rest.map fun v => v.category).sum ≤ _; omega) (X₁.named hnamed) ⟨has, eT, hc, hs⟩
  dsimp only [Pt.U, Pt.locs, Pt.cells, Pt.slots] at X' l1 y1 z1 hsteps hQ
  subst l1 y1 z1
  exact ⟨v, T', Lc, X', hQ, fun t k => hstep₁ _ fun acts => by rw [doInvoke_state]; exact hsteps.trans k⟩
theorem own_callF {C : String} {xi : MethodName} {count : Nat} {b : Addr} (X : Stand p l e R s m args below meth c T locs cells slots) (hx : p.tables.exec = Jvm.exec) (hZ : Z.Warmed39 s.vm) (hown : s.vm.findClass own = some m.cls) (w1 : (Jvm.Cond.methodLink own index xi).before a0 Z = true) (w2 : (Jvm.Cond.declares xi).before a0 Z = true) (w3 : (Jvm.Cond.interfaceMethod xi.cls xi.cls xi.name xi.desc).before args s = true) (w4 : (Jvm.Cond.selects C xi y).before a0 Z = true) (w5 : (Jvm.Cond.instanceMethod y).before a0 Z = true)
    (w6 : (Jvm.Cond.publicMethod y).before a0 Z = true) (w7 : (Jvm.Cond.unhidden C xi.name xi.desc).before a0 Z = true) (w8 : (Jvm.Cond.castable C xi.cls).before a0 Z = true) (w9 : (Jvm.Cond.code y bytes maxL ret).before a0 Z = true) (w10 : (Jvm.Cond.initialized y.cls).before a0 Z = true) (hy : xi.cls ≠ "java/lang/invoke/MethodHandle" ∧ xi.cls ≠ "java/lang/invoke/VarHandle") (hM : Ctr l y bytes maxL ret [] rm Z as' h Q) (eT : T.heap = h) (E : Exa Z h b C) (hpd : parseMethodDescriptor xi.desc = some ⟨ps, r⟩) (hd : decode c.code pc = .ok (.invokeinterface index count, 5)) (hsize : Ls.size = c.maxLocals)
    (hlen : argsL.length = ps.length) (hst : st = argsL.reverse ++ .ref b :: rest) (has : (.ref b :: argsL).toArray = as') {W : Nat} (hW : (rest.map fun v => v.category).sum ≤ W) (hR : rm.frames + 1 ≤ R.frames ∧ W + (maxL + 11) + rm.locals ≤ R.locals ∧ cells + rm.cells ≤ R.cells ∧ slots + rm.slots ≤ R.slots) :
    ∃ v T' L, Stand p l e R s m args below meth c T' (locs ++ L) (cells + rm.cells) (slots + rm.slots) ∧ Q v T'.heap L ∧ ∀ target, Steps p.tables e below (T'.setTop (mkF m (pc + 5) Ls (v.toList ++ rest))) target → Steps p.tables e below (T.setTop (mkF m pc Ls st)) target := by
  obtain ⟨hf, hl, hc, hs⟩ := hR
  obtain ⟨cq, kq, qa, qb, qc⟩ := isOf hZ eT E
  obtain ⟨v, _, ⟨T', L', k', n'⟩, -, X', ⟨Lc, hQ, l1, y1, z1⟩, st'⟩ := X.interfaceBack hx (xi := xi) (y := y) hown (mvT hZ w1) (mvT hZ w2) w3 (mvT hZ w4) (mvT hZ w5) (mvT hZ w6) (mvT hZ w7) (mvT hZ w8) hy (backOf (W := W) hM hZ w9 w10 hf hl) qa qb qc (g := mkF m pc Ls st) rfl hsize (Steps.refl _) (argsL := argsL) (rest := rest) (lenOf hpd hlen) hst (by show 2 * 0 + _ ≤ _; omega) hd (fun _ _ => ⟨has, eT, hc, hs⟩)
  dsimp only [Pt.U, Pt.locs, Pt.cells, Pt.slots] at X' l1 y1 z1 st' hQ
  subst l1 y1 z1
  exact ⟨v, T', Lc, X', hQ, fun t k => st'.trans k⟩
theorem own_memn {n : Nat} {ws : List Addr} : ∀ x ∈ ([] : List Addr), x ∈ ws ∨ n ≤ x := fun _ q => nomatch q
theorem own_memc {n : Nat} {ws l : List Addr} {a : Addr} (q : a ∈ ws ∨ n ≤ a) (r : ∀ x ∈ l, x ∈ ws ∨ n ≤ x) : ∀ x ∈ a :: l, x ∈ ws ∨ n ≤ x := fun x hx => (List.mem_cons.mp hx).elim (fun e => e ▸ q) (r x)
theorem own_irr (x : Int32) : ¬ x < x := Int32.lt_irrefl
theorem own_tri (x y : Int32) : x < y ∨ (¬ x < y ∧ x = y) ∨ (¬ x < y ∧ ¬ x = y) := by
  by_cases h : x < y
  · exact Or.inl h
  · by_cases q : x = y
    · exact Or.inr (Or.inl ⟨h, q⟩)
    · exact Or.inr (Or.inr ⟨h, q⟩)
end OwnP
section OwnS
variable {p : Program} {l : Launch} {e : Env} {R : Room} {s : State} {m : MethodId} {args : Array Value} {below : List Frame} {meth : Method} {c : Code} {T : State} {locs : List Loc} {cells slots : Nat} {pc : Nat} {Ls : Array Slot} {st : List Value} {P : Outcome → State → Prop} {Z : State} {a0 : Array Value} {h : Heap}
abbrev vr (a : Addr) : Slot := .val (.ref a)
abbrev vi (z : Int32) : Slot := .val (.int z)
abbrev vn : Slot := .val .null
abbrev vu : Slot := .unset
theorem g_getF (X : Stand p l e R s m args below meth c T locs cells slots) (hx : p.tables.exec = Jvm.exec) (hZ : Z.Warmed39 s.vm) {own O n d : String} {index : Nat} (hown : s.vm.findClass own = some m.cls) (w : (Jvm.Cond.fieldLink own index O n d).before a0 Z = true) (eT : T.heap = h) {a : Addr} {v : Value} (F : Fld Z h a O n d v) (hd : decode c.code pc = .ok (.getfield index, 3))
    (hr : ∀ T', Stand p l e R s m args below meth c T' locs cells slots → T'.heap = h → Go p e below (T'.setTop (mkF m (pc + 3) Ls (v :: st))) P) : Go p e below (T.setTop (mkF m pc Ls (.ref a :: st))) P := by
  obtain ⟨T', X', e', st'⟩ := getF X hx hZ hown (host := "") (Or.inl w) Via.refl eT F (g := mkF m pc Ls (.ref a :: st)) rfl rfl hd
  exact Go.mp st' (hr T' X' e')
theorem g_putF (X : Stand p l e R s m args below meth c T locs cells slots) (hx : p.tables.exec = Jvm.exec) (hZ : Z.Warmed39 s.vm) {own O n d C : String} {index kk : Nat} {ty : FieldType} (hown : s.vm.findClass own = some m.cls) (w : (Jvm.Cond.fieldLink own index O n d).before a0 Z = true) (eT : T.heap = h) {a : Addr} {v old : Value} (F : Fld Z h a O n d old) (E : Exa Z h a C)
    (L : (Jvm.Cond.lays C O n d).before a0 Z = true ∨ ((Jvm.Cond.laysFinal C O n d).before a0 Z = true ∧ own = O ∧ meth.name = "<init>")) (wi : (Jvm.Cond.instantiable C kk).before a0 Z = true) (hty : parseFieldDescriptor d = some ty) (hn : narrow ty v = v) (hf : fits ty v = true) (hd : decode c.code pc = .ok (.putfield index, 3))
    (hr : ∀ T' h', Stand p l e R s m args below meth c T' (locs ++ [⟨a, Jvm.RoadKit.slotOf Z O n d⟩]) cells slots → T'.heap = h' → Wr h h' a (Jvm.RoadKit.slotOf Z O n d) v → Go p e below (T'.setTop (mkF m (pc + 3) Ls st)) P) : Go p e below (T.setTop (mkF m pc Ls (v :: .ref a :: st))) P := by
  obtain ⟨T', h', X', e', W, st'⟩ := putF X hx hZ hown (host := "") (Or.inl w) Via.refl eT F E L wi hty hn hf (g := mkF m pc Ls (v :: .ref a :: st)) rfl rfl hd
  exact Go.mp st' (hr T' h' X' e' W)
theorem g_cast (X : Stand p l e R s m args below meth c T locs cells slots) (hx : p.tables.exec = Jvm.exec) (hZ : Z.Warmed39 s.vm) {own K : String} {index : Nat} (hown : s.vm.findClass own = some m.cls) (w : (Jvm.Cond.classLink own index K).before a0 Z = true) (eT : T.heap = h) {a : Addr} (F : Ins Z h a K true) (hd : decode c.code pc = .ok (.checkcast index, 3))
    (hr : ∀ T', Stand p l e R s m args below meth c T' locs cells slots → T'.heap = h → Go p e below (T'.setTop (mkF m (pc + 3) Ls (.ref a :: st))) P) : Go p e below (T.setTop (mkF m pc Ls (.ref a :: st))) P := by
  obtain ⟨T', X', e', st'⟩ := castY X hx hZ hown w eT F (g := mkF m pc Ls (.ref a :: st)) rfl rfl hd
  exact Go.mp st' (hr T' X' e')
theorem g_init (X : Stand p l e R s m args below meth c T locs cells slots) (hx : p.tables.exec = Jvm.exec) (hZ : Z.Warmed39 s.vm) {own : String} {idx : Nat} (hown : s.vm.findClass own = some m.cls) (w1 : (Jvm.Cond.methodLink own idx Lib.objectInit).before a0 Z = true) (w2 : (Jvm.Cond.instanceMethod Lib.objectInit).before a0 Z = true) (w3 : (Jvm.Cond.code Lib.objectInit ⟨#[0xb1]⟩ 1 none).before a0 Z = true) (eT : T.heap = h) {a : Addr} (hsize : Ls.size = c.maxLocals) (hd : decode c.code pc = .ok (.invokespecial idx, 3)) (hf : 1 ≤ R.frames) {W : Nat} (hW : (st.map fun v => v.category).sum ≤ W) (hl : W + 12 ≤ R.locals)
    (hr : ∀ T', Stand p l e R s m args below meth c T' locs cells slots → T'.heap = h → Go p e below (T'.setTop (mkF m (pc + 3) Ls st)) P) : Go p e below (T.setTop (mkF m pc Ls (.ref a :: st))) P := by
  obtain ⟨T', X', e', st'⟩ := initO X hx hZ hown w1 w2 w3 eT (g := mkF m pc Ls (.ref a :: st)) rfl hsize rfl hd hf (W := W) (by show 2 * 0 + _ ≤ _; omega) hl
  exact Go.mp st' (hr T' X' e')
theorem g_call {cells' slots' : Nat} {pc' : Nat} {st' : List Value} {Q : Option Value → Heap → List Loc → Prop} (q : ∃ v T' L, Stand p l e R s m args below meth c T' (locs ++ L) cells' slots' ∧ Q v T'.heap L ∧ ∀ target, Steps p.tables e below (T'.setTop (mkF m pc' Ls (v.toList ++ st'))) target → Steps p.tables e below (T.setTop (mkF m pc Ls st)) target)
    (hr : ∀ v T' L, Stand p l e R s m args below meth c T' (locs ++ L) cells' slots' → Q v T'.heap L → Go p e below (T'.setTop (mkF m pc' Ls (v.toList ++ st'))) P) : Go p e below (T.setTop (mkF m pc Ls st)) P := by
  obtain ⟨v, T', L, X', q', st''⟩ := q
  exact Go.mp st'' (hr v T' L X' q')
theorem g_nullYes (X : Stand p l e R s m args below meth c T locs cells slots) (hx : p.tables.exec = Jvm.exec) {o : Int} (pc' : Nat) (hd : decode c.code pc = .ok (.ifnull o, 3)) (ho : 0 ≤ (pc : Int) + o) (hp : ((pc : Int) + o).toNat = pc') (hr : Go p e below (T.setTop (mkF m pc' Ls st)) P) : Go p e below (T.setTop (mkF m pc Ls (.null :: st))) P := Go.mp (fun _ k => XS.ifnullYes X.here hx rfl (pc0 := pc) (pc' := pc') rfl hd rfl ho hp k) hr
theorem g_nullNo (X : Stand p l e R s m args below meth c T locs cells slots) (hx : p.tables.exec = Jvm.exec) {o : Int} {a : Addr} (hd : decode c.code pc = .ok (.ifnull o, 3)) (hr : Go p e below (T.setTop (mkF m (pc + 3) Ls st)) P) : Go p e below (T.setTop (mkF m pc Ls (.ref a :: st))) P := Go.mp (fun _ k => XS.ifnullNo X.here hx rfl hd rfl k) hr
theorem g_nonnullYes (X : Stand p l e R s m args below meth c T locs cells slots) (hx : p.tables.exec = Jvm.exec) {o : Int} {a : Addr} (pc' : Nat) (hd : decode c.code pc = .ok (.ifnonnull o, 3)) (ho : 0 ≤ (pc : Int) + o) (hp : ((pc : Int) + o).toNat = pc') (hr : Go p e below (T.setTop (mkF m pc' Ls st)) P) : Go p e below (T.setTop (mkF m pc Ls (.ref a :: st))) P := Go.mp (fun _ k => XS.ifnonnullYes X.here hx rfl (pc0 := pc) (pc' := pc') rfl hd rfl ho hp k) hr
theorem g_nonnullNo (X : Stand p l e R s m args below meth c T locs cells slots) (hx : p.tables.exec = Jvm.exec) {o : Int} (hd : decode c.code pc = .ok (.ifnonnull o, 3)) (hr : Go p e below (T.setTop (mkF m (pc + 3) Ls st)) P) : Go p e below (T.setTop (mkF m pc Ls (.null :: st))) P := Go.mp (fun _ k => XS.ifnonnullNo X.here hx rfl hd rfl k) hr
theorem g_ldc (X : Stand p l e R s m args below meth c T locs cells slots) (hx : p.tables.exec = Jvm.exec) (hZ : Z.Warmed39 s.vm) {own : String} {index : Nat} {v : Int32} (hown : s.vm.findClass own = some m.cls) (w : (Jvm.Cond.constant own index v).before a0 Z = true) (hd : decode c.code pc = .ok (.ldc index, 2)) (hr : Go p e below (T.setTop (mkF m (pc + 2) Ls (.int v :: st))) P) : Go p e below (T.setTop (mkF m pc Ls st)) P := Go.mp (fun _ k => X.ldcInt hx hown (mvT hZ w) (g := mkF m pc Ls st) rfl hd _ k) hr
theorem g_ldcw (X : Stand p l e R s m args below meth c T locs cells slots) (hx : p.tables.exec = Jvm.exec) (hZ : Z.Warmed39 s.vm) {own : String} {index : Nat} {v : Int32} (hown : s.vm.findClass own = some m.cls) (w : (Jvm.Cond.constant own index v).before a0 Z = true) (hd : decode c.code pc = .ok (.ldc_w index, 3)) (hr : Go p e below (T.setTop (mkF m (pc + 3) Ls (.int v :: st))) P) : Go p e below (T.setTop (mkF m pc Ls st)) P := Go.mp (fun _ k => X.ldcWInt hx hown (mvT hZ w) (g := mkF m pc Ls st) rfl hd _ k) hr
end OwnS
section OwnK
variable {p : Program} {l : Launch} {e : Env} {R : Room} {s : State} {m : MethodId} {args : Array Value} {below : List Frame} {meth : Method} {c : Code} {T : State} {locs : List Loc} {cells slots : Nat} {pc : Nat} {Ls : Array Slot} {st : List Value} {P : Outcome → State → Prop} {Z : State} {a0 : Array Value} {h : Heap} {y xi : MethodName} {bytes : ByteArray} {maxL n W count : Nat} {ret r : Option FieldType} {rm : Room} {Q : Option Value → Heap → List Loc → Prop} {own C : String} {index : Nat} {argsL rest : List Value} {ps : List FieldType} {b : Addr} {hs : List (Nat × Nat × Nat × Nat)}
abbrev NoMH (y : MethodName) : Prop := y.cls ≠ "java/lang/invoke/MethodHandle" ∧ y.cls ≠ "java/lang/invoke/VarHandle"
abbrev RmOk (W maxL : Nat) (rm : Room) (cells slots : Nat) (R : Room) : Prop := rm.frames + 1 ≤ R.frames ∧ W + (maxL + 11) + rm.locals ≤ R.locals ∧ cells + rm.cells ≤ R.cells ∧ slots + rm.slots ≤ R.slots
abbrev LkS (own : String) (index : Nat) (y : MethodName) (bytes : ByteArray) (maxL : Nat) (ret : Option FieldType) (ps : List FieldType) (r : Option FieldType) (a0 : Array Value) (Z : State) : Prop := (Jvm.Cond.methodLink own index y).before a0 Z = true ∧ (Jvm.Cond.static y).before a0 Z = true ∧ (Jvm.Cond.initialized y.cls).before a0 Z = true ∧ (Jvm.Cond.code y bytes maxL ret).before a0 Z = true ∧ NoMH y ∧ parseMethodDescriptor y.desc = some ⟨ps, r⟩
abbrev LkV (own : String) (index : Nat) (y : MethodName) (C : String) (bytes : ByteArray) (maxL : Nat) (ret : Option FieldType) (ps : List FieldType) (r : Option FieldType) (a0 : Array Value) (Z : State) : Prop := (Jvm.Cond.methodLink own index y).before a0 Z = true ∧ (Jvm.Cond.declares y).before a0 Z = true ∧ (Jvm.Cond.selects C y y).before a0 Z = true ∧ (Jvm.Cond.instanceMethod y).before a0 Z = true ∧ (Jvm.Cond.code y bytes maxL ret).before a0 Z = true ∧ (Jvm.Cond.initialized y.cls).before a0 Z = true ∧ NoMH y ∧ parseMethodDescriptor y.desc = some ⟨ps, r⟩
abbrev LkI (own : String) (index : Nat) (y : MethodName) (bytes : ByteArray) (maxL : Nat) (ps : List FieldType) (r : Option FieldType) (a0 : Array Value) (Z : State) : Prop := (Jvm.Cond.methodLink own index y).before a0 Z = true ∧ (Jvm.Cond.instanceMethod y).before a0 Z = true ∧ (Jvm.Cond.code y bytes maxL none).before a0 Z = true ∧ (Jvm.Cond.initialized y.cls).before a0 Z = true ∧ y.name = "<init>" ∧ NoMH y ∧ parseMethodDescriptor y.desc = some ⟨ps, r⟩
abbrev LkP (own : String) (index : Nat) (y : MethodName) (n : Nat) (bytes : ByteArray) (maxL : Nat) (ret : Option FieldType) (ps : List FieldType) (r : Option FieldType) (a0 : Array Value) (Z : State) : Prop := (Jvm.Cond.methodLink own index y).before a0 Z = true ∧ (Jvm.Cond.instanceMethod y).before a0 Z = true ∧ (Jvm.Cond.privateMethod y).before a0 Z = true ∧ (Jvm.Cond.instantiable y.cls n).before a0 Z = true ∧ (Jvm.Cond.code y bytes maxL ret).before a0 Z = true ∧ (Jvm.Cond.initialized y.cls).before a0 Z = true ∧ NoMH y ∧ parseMethodDescriptor y.desc = some ⟨ps, r⟩
abbrev LkPH (own : String) (index : Nat) (y : MethodName) (n : Nat) (bytes : ByteArray) (maxL : Nat) (ret : Option FieldType) (hs : List (Nat × Nat × Nat × Nat)) (ps : List FieldType) (r : Option FieldType) (a0 : Array Value) (Z : State) : Prop := (Jvm.Cond.methodLink own index y).before a0 Z = true ∧ (Jvm.Cond.instanceMethod y).before a0 Z = true ∧ (Jvm.Cond.privateMethod y).before a0 Z = true ∧ (Jvm.Cond.instantiable y.cls n).before a0 Z = true ∧ (Jvm.Cond.codeWith y bytes maxL ret hs).before a0 Z = true ∧ (Jvm.Cond.initialized y.cls).before a0 Z = true ∧ NoMH y ∧ parseMethodDescriptor y.desc = some ⟨ps, r⟩
abbrev LkF (own : String) (index : Nat) (xi y : MethodName) (C : String) (bytes : ByteArray) (maxL : Nat) (ret : Option FieldType) (ps : List FieldType) (r : Option FieldType) (a0 : Array Value) (Z : State) : Prop := (Jvm.Cond.methodLink own index xi).before a0 Z = true ∧ (Jvm.Cond.declares xi).before a0 Z = true ∧ (Jvm.Cond.selects C xi y).before a0 Z = true ∧ (Jvm.Cond.instanceMethod y).before a0 Z = true ∧ (Jvm.Cond.publicMethod y).before a0 Z = true ∧ (Jvm.Cond.unhidden C xi.name xi.desc).before a0 Z = true ∧ (Jvm.Cond.castable C xi.cls).before a0 Z = true ∧ (Jvm.Cond.code y bytes maxL ret).before a0 Z = true ∧ (Jvm.Cond.initialized y.cls).before a0 Z = true ∧ NoMH xi ∧ parseMethodDescriptor xi.desc = some ⟨ps, r⟩
theorem g_S (X : Stand p l e R s m args below meth c T locs cells slots) (hx : p.tables.exec = Jvm.exec) (hZ : Z.Warmed39 s.vm) (hown : s.vm.findClass own = some m.cls) (k : LkS own index y bytes maxL ret ps r a0 Z) (hM : Ctr l y bytes maxL ret [] rm Z argsL.toArray h Q) (eT : T.heap = h) (hd : decode c.code pc = .ok (.invokestatic index, 3)) (hsize : Ls.size = c.maxLocals) (hlen : argsL.length = ps.length) (hst : st = argsL.reverse ++ rest) (hW : (rest.map fun v => v.category).sum ≤ W) (hR : RmOk W maxL rm cells slots R)
    (hr : ∀ v T' L, Stand p l e R s m args below meth c T' (locs ++ L) (cells + rm.cells) (slots + rm.slots) → Q v T'.heap L → Go p e below (T'.setTop (mkF m (pc + 3) Ls (v.toList ++ rest))) P) : Go p e below (T.setTop (mkF m pc Ls st)) P := g_call (own_callS X hx hZ hown k.1 k.2.1 k.2.2.1 k.2.2.2.1 k.2.2.2.2.1 hM eT k.2.2.2.2.2 hd hsize hlen hst rfl hW hR) hr
theorem g_V (X : Stand p l e R s m args below meth c T locs cells slots) (hx : p.tables.exec = Jvm.exec) (hZ : Z.Warmed39 s.vm) (hown : s.vm.findClass own = some m.cls) (k : LkV own index y C bytes maxL ret ps r a0 Z) (hM : Ctr l y bytes maxL ret [] rm Z (.ref b :: argsL).toArray h Q) (eT : T.heap = h) (E : Exa Z h b C) (hd : decode c.code pc = .ok (.invokevirtual index, 3)) (hsize : Ls.size = c.maxLocals) (hlen : argsL.length = ps.length) (hst : st = argsL.reverse ++ .ref b :: rest) (hW : (rest.map fun v => v.category).sum ≤ W) (hR : RmOk W maxL rm cells slots R)
    (hr : ∀ v T' L, Stand p l e R s m args below meth c T' (locs ++ L) (cells + rm.cells) (slots + rm.slots) → Q v T'.heap L → Go p e below (T'.setTop (mkF m (pc + 3) Ls (v.toList ++ rest))) P) : Go p e below (T.setTop (mkF m pc Ls st)) P := g_call (own_callV X hx hZ hown k.1 k.2.1 k.2.2.1 k.2.2.2.1 k.2.2.2.2.1 k.2.2.2.2.2.1 k.2.2.2.2.2.2.1 hM eT E k.2.2.2.2.2.2.2 hd hsize hlen hst rfl hW hR) hr
theorem g_I (X : Stand p l e R s m args below meth c T locs cells slots) (hx : p.tables.exec = Jvm.exec) (hZ : Z.Warmed39 s.vm) (hown : s.vm.findClass own = some m.cls) (k : LkI own index y bytes maxL ps r a0 Z) (hM : Ctr l y bytes maxL none [] rm Z (.ref b :: argsL).toArray h Q) (eT : T.heap = h) (hd : decode c.code pc = .ok (.invokespecial index, 3)) (hsize : Ls.size = c.maxLocals) (hlen : argsL.length = ps.length) (hst : st = argsL.reverse ++ .ref b :: rest) (hW : (rest.map fun v => v.category).sum ≤ W) (hR : RmOk W maxL rm cells slots R)
    (hr : ∀ v T' L, Stand p l e R s m args below meth c T' (locs ++ L) (cells + rm.cells) (slots + rm.slots) → Q v T'.heap L → Go p e below (T'.setTop (mkF m (pc + 3) Ls (v.toList ++ rest))) P) : Go p e below (T.setTop (mkF m pc Ls st)) P := g_call (own_callI X hx hZ hown k.1 k.2.1 k.2.2.1 k.2.2.2.1 k.2.2.2.2.1 k.2.2.2.2.2.1 hM eT k.2.2.2.2.2.2 hd hsize hlen hst rfl hW hR) hr
theorem g_P (X : Stand p l e R s m args below meth c T locs cells slots) (hx : p.tables.exec = Jvm.exec) (hZ : Z.Warmed39 s.vm) (hown : s.vm.findClass own = some m.cls) (k : LkP own index y n bytes maxL ret ps r a0 Z) (hM : Ctr l y bytes maxL ret [] rm Z (.ref b :: argsL).toArray h Q) (eT : T.heap = h) (E : Exa Z h b C) (hd : decode c.code pc = .ok (.invokevirtual index, 3)) (hsize : Ls.size = c.maxLocals) (hlen : argsL.length = ps.length) (hst : st = argsL.reverse ++ .ref b :: rest) (hW : (rest.map fun v => v.category).sum ≤ W) (hR : RmOk W maxL rm cells slots R)
    (hr : ∀ v T' L, Stand p l e R s m args below meth c T' (locs ++ L) (cells + rm.cells) (slots + rm.slots) → Q v T'.heap L → Go p e below (T'.setTop (mkF m (pc + 3) Ls (v.toList ++ rest))) P) : Go p e below (T.setTop (mkF m pc Ls st)) P := g_call (own_callP X hx hZ hown k.1 k.2.1 k.2.2.1 k.2.2.2.1 k.2.2.2.2.1 k.2.2.2.2.2.1 k.2.2.2.2.2.2.1 hM eT E k.2.2.2.2.2.2.2 hd hsize hlen hst rfl hW hR) hr
theorem g_PH (X : Stand p l e R s m args below meth c T locs cells slots) (hx : p.tables.exec = Jvm.exec) (hZ : Z.Warmed39 s.vm) (hown : s.vm.findClass own = some m.cls) (k : LkPH own index y n bytes maxL ret hs ps r a0 Z) (hM : CtrH l y bytes maxL ret hs rm Z (.ref b :: argsL).toArray h Q) (eT : T.heap = h) (E : Exa Z h b C) (hd : decode c.code pc = .ok (.invokevirtual index, 3)) (hsize : Ls.size = c.maxLocals) (hlen : argsL.length = ps.length) (hst : st = argsL.reverse ++ .ref b :: rest) (hW : (rest.map fun v => v.category).sum ≤ W) (hR : RmOk W maxL rm cells slots R)
    (hr : ∀ v T' L, Stand p l e R s m args below meth c T' (locs ++ L) (cells + rm.cells) (slots + rm.slots) → Q v T'.heap L → Go p e below (T'.setTop (mkF m (pc + 3) Ls (v.toList ++ rest))) P) : Go p e below (T.setTop (mkF m pc Ls st)) P := g_call (own_callPH X hx hZ hown k.1 k.2.1 k.2.2.1 k.2.2.2.1 k.2.2.2.2.1 k.2.2.2.2.2.1 k.2.2.2.2.2.2.1 hM eT E k.2.2.2.2.2.2.2 hd hsize hlen hst rfl hW hR) hr
theorem g_F (X : Stand p l e R s m args below meth c T locs cells slots) (hx : p.tables.exec = Jvm.exec) (hZ : Z.Warmed39 s.vm) (hown : s.vm.findClass own = some m.cls) (k : LkF own index xi y C bytes maxL ret ps r a0 Z) (w3 : (Jvm.Cond.interfaceMethod xi.cls xi.cls xi.name xi.desc).before args s = true) (hM : Ctr l y bytes maxL ret [] rm Z (.ref b :: argsL).toArray h Q) (eT : T.heap = h) (E : Exa Z h b C) (hd : decode c.code pc = .ok (.invokeinterface index count, 5)) (hsize : Ls.size = c.maxLocals) (hlen : argsL.length = ps.length) (hst : st = argsL.reverse ++ .ref b :: rest) (hW : (rest.map fun v => v.category).sum ≤ W) (hR : RmOk W maxL rm cells slots R)
    (hr : ∀ v T' L, Stand p l e R s m args below meth c T' (locs ++ L) (cells + rm.cells) (slots + rm.slots) → Q v T'.heap L → Go p e below (T'.setTop (mkF m (pc + 5) Ls (v.toList ++ rest))) P) : Go p e below (T.setTop (mkF m pc Ls st)) P := by
  obtain ⟨k1, k2, k4, k5, k6, k7, k8, k9, k10, k11, k12⟩ := k
  exact g_call (own_callF X hx hZ hown k1 k2 w3 k4 k5 k6 k7 k8 k9 k10 k11 hM eT E k12 hd hsize hlen hst rfl hW hR) hr
abbrev rmk (f cs sl ls : Nat) : Room := { frames := f, cells := cs, slots := sl, locals := ls }
theorem nl {a : Addr} : a ∉ ([] : List Addr) := List.not_mem_nil
theorem mw {l : List Addr} {a : Addr} {q : Prop} (i : Nat) (h : l[i]? = some a) : a ∈ l ∨ q := Or.inl (List.mem_of_getElem? h)
end OwnK
abbrev B0 : ByteArray := jdk_18_method_1_code
abbrev B1 : ByteArray := jdk_33_method_23_code
abbrev B2 : ByteArray := jdk_33_method_22_code
abbrev B3 : ByteArray := jdk_33_method_27_code
abbrev B4 : ByteArray := prog_7_method_77_code
abbrev B5 : ByteArray := prog_7_method_73_code
abbrev B6 : ByteArray := prog_7_method_76_code
abbrev B7 : ByteArray := jdk_33_method_40_code
abbrev B8 : ByteArray := jdk_33_method_39_code
abbrev B9 : ByteArray := jdk_33_method_63_code
abbrev B10 : ByteArray := prog_7_method_72_code
abbrev B11 : ByteArray := prog_7_method_84_code
abbrev B12 : ByteArray := prog_8_method_1_code
abbrev B13 : ByteArray := prog_7_method_51_code
abbrev B14 : ByteArray := prog_7_method_55_code
abbrev B15 : ByteArray := prog_7_method_81_code
abbrev B16 : ByteArray := prog_7_method_82_code
abbrev B17 : ByteArray := prog_7_method_90_code
abbrev B18 : ByteArray := prog_7_method_65_code
abbrev B19 : ByteArray := prog_7_method_8_code
abbrev B20 : ByteArray := prog_7_method_86_code
abbrev B21 : ByteArray := prog_8_method_4_code
abbrev B22 : ByteArray := prog_7_method_52_code
abbrev B23 : ByteArray := prog_7_method_87_code
abbrev B24 : ByteArray := prog_7_method_83_code
abbrev B25 : ByteArray := prog_7_method_54_code
abbrev B26 : ByteArray := prog_7_method_89_code
abbrev B27 : ByteArray := prog_7_method_85_code
abbrev B28 : ByteArray := prog_7_method_88_code
abbrev B29 : ByteArray := jdk_71_method_1_code
abbrev B30 : ByteArray := prog_7_method_2_code
abbrev B31 : ByteArray := prog_7_method_1_code
abbrev F1_ : FieldType := FieldType.object "com/example/rosewood/rosewood/RosewoodMap$Node"
abbrev F2_ : FieldType := FieldType.object "java/util/Comparator"
abbrev F3_ : FieldType := FieldType.object "java/lang/Object"
abbrev F4_ : FieldType := FieldType.object "java/lang/Integer"
variable {l : Launch} {Z : State} {a0 : Array Value}
set_option maxRecDepth 65536
set_option maxHeartbeats 40000000
def R_MP (Z : State) (h : Heap) (a : Addr) (v0 v1 v2 v3 : Value) : Prop := Exa Z h a "com/example/rosewood/rosewood/RosewoodMap" ∧ Fld Z h a "com/example/rosewood/rosewood/RosewoodMap" "comparator" "Ljava/util/Comparator;" v0 ∧ Fld Z h a "com/example/rosewood/rosewood/RosewoodMap" "root" "Lcom/example/rosewood/rosewood/RosewoodMap$Node;" v1 ∧ Fld Z h a "com/example/rosewood/rosewood/RosewoodMap" "size" "I" v2 ∧ Fld Z h a "com/example/rosewood/rosewood/RosewoodMap" "modCount" "I" v3
theorem R_MP_ext {Z : State} {h h' : Heap} {a : Addr} {v0 v1 v2 v3 : Value} (E : Ext h h') (F : R_MP Z h a v0 v1 v2 v3) : R_MP Z h' a v0 v1 v2 v3 := ⟨Exa.ext E F.1, Fld.ext E F.2.1, Fld.ext E F.2.2.1, Fld.ext E F.2.2.2.1, Fld.ext E F.2.2.2.2⟩
theorem R_MP_other {Z : State} {h h' : Heap} {a : Addr} {v0 v1 v2 v3 : Value} {b : Addr} {sl : Nat} {w : Value} (W : Wr h h' b sl w) (F : R_MP Z h a v0 v1 v2 v3) (q : a ≠ b) : R_MP Z h' a v0 v1 v2 v3 := ⟨Exa.wr W F.1, Fld.other W F.2.1 (Or.inl q), Fld.other W F.2.2.1 (Or.inl q), Fld.other W F.2.2.2.1 (Or.inl q), Fld.other W F.2.2.2.2 (Or.inl q)⟩
theorem R_MP_keep {Z : State} {h h' : Heap} {a : Addr} {v0 v1 v2 v3 : Value} {ws : List Addr} (F : R_MP Z h a v0 v1 v2 v3) (K : Keep h h' ws) (q : a ∉ ws) : R_MP Z h' a v0 v1 v2 v3 := ⟨Exa.keep F.1 K, Fld.keep F.2.1 K q, Fld.keep F.2.2.1 K q, Fld.keep F.2.2.2.1 K q, Fld.keep F.2.2.2.2 K q⟩
theorem R_MP_set_comparator {Z : State} {h h' : Heap} {a : Addr} {v0 v1 v2 v3 : Value} {w : Value} {a0 : Array Value} (hw : HW a0 Z) (W : Wr h h' a (Jvm.RoadKit.slotOf Z "com/example/rosewood/rosewood/RosewoodMap" "comparator" "Ljava/util/Comparator;") w) (F : R_MP Z h a v0 v1 v2 v3) : R_MP Z h' a w v1 v2 v3 := ⟨Exa.wr W F.1, Fld.same W F.2.1, Fld.other W F.2.2.1 (Or.inr (slot_ne (Or.inl (Wd26 hw)) (Or.inr (Wd19 hw)) (by decide) (t := F1_) (t' := F2_) (by decide) (by decide))), Fld.other W F.2.2.2.1 (Or.inr (slot_ne (Or.inl (Wd97 hw)) (Or.inr (Wd19 hw)) (by decide) (t := FieldType.int) (t' := F2_) (by decide) (by decide))), Fld.other W F.2.2.2.2 (Or.inr (slot_ne (Or.inl (Wd99 hw)) (Or.inr (Wd19 hw)) (by decide) (t := FieldType.int) (t' := F2_) (by decide) (by decide)))⟩
theorem R_MP_set_root {Z : State} {h h' : Heap} {a : Addr} {v0 v1 v2 v3 : Value} {w : Value} {a0 : Array Value} (hw : HW a0 Z) (W : Wr h h' a (Jvm.RoadKit.slotOf Z "com/example/rosewood/rosewood/RosewoodMap" "root" "Lcom/example/rosewood/rosewood/RosewoodMap$Node;") w) (F : R_MP Z h a v0 v1 v2 v3) : R_MP Z h' a v0 w v2 v3 := ⟨Exa.wr W F.1, Fld.other W F.2.1 (Or.inr (slot_ne (Or.inr (Wd19 hw)) (Or.inl (Wd26 hw)) (by decide) (t := F2_) (t' := F1_) (by decide) (by decide))), Fld.same W F.2.2.1, Fld.other W F.2.2.2.1 (Or.inr (slot_ne (Or.inl (Wd97 hw)) (Or.inl (Wd26 hw)) (by decide) (t := FieldType.int) (t' := F1_) (by decide) (by decide))), Fld.other W F.2.2.2.2 (Or.inr (slot_ne (Or.inl (Wd99 hw)) (Or.inl (Wd26 hw)) (by decide) (t := FieldType.int) (t' := F1_) (by decide) (by decide)))⟩
theorem R_MP_set_size {Z : State} {h h' : Heap} {a : Addr} {v0 v1 v2 v3 : Value} {w : Value} {a0 : Array Value} (hw : HW a0 Z) (W : Wr h h' a (Jvm.RoadKit.slotOf Z "com/example/rosewood/rosewood/RosewoodMap" "size" "I") w) (F : R_MP Z h a v0 v1 v2 v3) : R_MP Z h' a v0 v1 w v3 := ⟨Exa.wr W F.1, Fld.other W F.2.1 (Or.inr (slot_ne (Or.inr (Wd19 hw)) (Or.inl (Wd97 hw)) (by decide) (t := F2_) (t' := FieldType.int) (by decide) (by decide))), Fld.other W F.2.2.1 (Or.inr (slot_ne (Or.inl (Wd26 hw)) (Or.inl (Wd97 hw)) (by decide) (t := F1_) (t' := FieldType.int) (by decide) (by decide))), Fld.same W F.2.2.2.1, Fld.other W F.2.2.2.2 (Or.inr (slot_ne (Or.inl (Wd99 hw)) (Or.inl (Wd97 hw)) (by decide) (t := FieldType.int) (t' := FieldType.int) (by decide) (by decide)))⟩
theorem R_MP_set_modCount {Z : State} {h h' : Heap} {a : Addr} {v0 v1 v2 v3 : Value} {w : Value} {a0 : Array Value} (hw : HW a0 Z) (W : Wr h h' a (Jvm.RoadKit.slotOf Z "com/example/rosewood/rosewood/RosewoodMap" "modCount" "I") w) (F : R_MP Z h a v0 v1 v2 v3) : R_MP Z h' a v0 v1 v2 w := ⟨Exa.wr W F.1, Fld.other W F.2.1 (Or.inr (slot_ne (Or.inr (Wd19 hw)) (Or.inl (Wd99 hw)) (by decide) (t := F2_) (t' := FieldType.int) (by decide) (by decide))), Fld.other W F.2.2.1 (Or.inr (slot_ne (Or.inl (Wd26 hw)) (Or.inl (Wd99 hw)) (by decide) (t := F1_) (t' := FieldType.int) (by decide) (by decide))), Fld.other W F.2.2.2.1 (Or.inr (slot_ne (Or.inl (Wd97 hw)) (Or.inl (Wd99 hw)) (by decide) (t := FieldType.int) (t' := FieldType.int) (by decide) (by decide))), Fld.same W F.2.2.2.2⟩
def R_ND (Z : State) (h : Heap) (a : Addr) (v0 v1 v2 v3 v4 v5 : Value) : Prop := Exa Z h a "com/example/rosewood/rosewood/RosewoodMap$Node" ∧ Fld Z h a "com/example/rosewood/rosewood/RosewoodMap$Node" "key" "Ljava/lang/Object;" v0 ∧ Fld Z h a "com/example/rosewood/rosewood/RosewoodMap$Node" "value" "Ljava/lang/Object;" v1 ∧ Fld Z h a "com/example/rosewood/rosewood/RosewoodMap$Node" "left" "Lcom/example/rosewood/rosewood/RosewoodMap$Node;" v2 ∧ Fld Z h a "com/example/rosewood/rosewood/RosewoodMap$Node" "right" "Lcom/example/rosewood/rosewood/RosewoodMap$Node;" v3 ∧ Fld Z h a "com/example/rosewood/rosewood/RosewoodMap$Node" "parent" "Lcom/example/rosewood/rosewood/RosewoodMap$Node;" v4 ∧ Fld Z h a "com/example/rosewood/rosewood/RosewoodMap$Node" "redAndLeftCount" "I" v5
theorem R_ND_ext {Z : State} {h h' : Heap} {a : Addr} {v0 v1 v2 v3 v4 v5 : Value} (E : Ext h h') (F : R_ND Z h a v0 v1 v2 v3 v4 v5) : R_ND Z h' a v0 v1 v2 v3 v4 v5 := ⟨Exa.ext E F.1, Fld.ext E F.2.1, Fld.ext E F.2.2.1, Fld.ext E F.2.2.2.1, Fld.ext E F.2.2.2.2.1, Fld.ext E F.2.2.2.2.2.1, Fld.ext E F.2.2.2.2.2.2⟩
theorem R_ND_other {Z : State} {h h' : Heap} {a : Addr} {v0 v1 v2 v3 v4 v5 : Value} {b : Addr} {sl : Nat} {w : Value} (W : Wr h h' b sl w) (F : R_ND Z h a v0 v1 v2 v3 v4 v5) (q : a ≠ b) : R_ND Z h' a v0 v1 v2 v3 v4 v5 := ⟨Exa.wr W F.1, Fld.other W F.2.1 (Or.inl q), Fld.other W F.2.2.1 (Or.inl q), Fld.other W F.2.2.2.1 (Or.inl q), Fld.other W F.2.2.2.2.1 (Or.inl q), Fld.other W F.2.2.2.2.2.1 (Or.inl q), Fld.other W F.2.2.2.2.2.2 (Or.inl q)⟩
theorem R_ND_keep {Z : State} {h h' : Heap} {a : Addr} {v0 v1 v2 v3 v4 v5 : Value} {ws : List Addr} (F : R_ND Z h a v0 v1 v2 v3 v4 v5) (K : Keep h h' ws) (q : a ∉ ws) : R_ND Z h' a v0 v1 v2 v3 v4 v5 := ⟨Exa.keep F.1 K, Fld.keep F.2.1 K q, Fld.keep F.2.2.1 K q, Fld.keep F.2.2.2.1 K q, Fld.keep F.2.2.2.2.1 K q, Fld.keep F.2.2.2.2.2.1 K q, Fld.keep F.2.2.2.2.2.2 K q⟩
theorem R_ND_set_key {Z : State} {h h' : Heap} {a : Addr} {v0 v1 v2 v3 v4 v5 : Value} {w : Value} {a0 : Array Value} (hw : HW a0 Z) (W : Wr h h' a (Jvm.RoadKit.slotOf Z "com/example/rosewood/rosewood/RosewoodMap$Node" "key" "Ljava/lang/Object;") w) (F : R_ND Z h a v0 v1 v2 v3 v4 v5) : R_ND Z h' a w v1 v2 v3 v4 v5 := ⟨Exa.wr W F.1, Fld.same W F.2.1, Fld.other W F.2.2.1 (Or.inr (slot_ne (Or.inl (Wd88 hw)) (Or.inl (Wd86 hw)) (by decide) (t := F3_) (t' := F3_) (by decide) (by decide))), Fld.other W F.2.2.2.1 (Or.inr (slot_ne (Or.inl (Wd102 hw)) (Or.inl (Wd86 hw)) (by decide) (t := F1_) (t' := F3_) (by decide) (by decide))), Fld.other W F.2.2.2.2.1 (Or.inr (slot_ne (Or.inl (Wd104 hw)) (Or.inl (Wd86 hw)) (by decide) (t := F1_) (t' := F3_) (by decide) (by decide))), Fld.other W F.2.2.2.2.2.1 (Or.inr (slot_ne (Or.inl (Wd90 hw)) (Or.inl (Wd86 hw)) (by decide) (t := F1_) (t' := F3_) (by decide) (by decide))), Fld.other W F.2.2.2.2.2.2 (Or.inr (slot_ne (Or.inl (Wd84 hw)) (Or.inl (Wd86 hw)) (by decide) (t := FieldType.int) (t' := F3_) (by decide) (by decide)))⟩
theorem R_ND_set_value {Z : State} {h h' : Heap} {a : Addr} {v0 v1 v2 v3 v4 v5 : Value} {w : Value} {a0 : Array Value} (hw : HW a0 Z) (W : Wr h h' a (Jvm.RoadKit.slotOf Z "com/example/rosewood/rosewood/RosewoodMap$Node" "value" "Ljava/lang/Object;") w) (F : R_ND Z h a v0 v1 v2 v3 v4 v5) : R_ND Z h' a v0 w v2 v3 v4 v5 := ⟨Exa.wr W F.1, Fld.other W F.2.1 (Or.inr (slot_ne (Or.inl (Wd86 hw)) (Or.inl (Wd88 hw)) (by decide) (t := F3_) (t' := F3_) (by decide) (by decide))), Fld.same W F.2.2.1, Fld.other W F.2.2.2.1 (Or.inr (slot_ne (Or.inl (Wd102 hw)) (Or.inl (Wd88 hw)) (by decide) (t := F1_) (t' := F3_) (by decide) (by decide))), Fld.other W F.2.2.2.2.1 (Or.inr (slot_ne (Or.inl (Wd104 hw)) (Or.inl (Wd88 hw)) (by decide) (t := F1_) (t' := F3_) (by decide) (by decide))), Fld.other W F.2.2.2.2.2.1 (Or.inr (slot_ne (Or.inl (Wd90 hw)) (Or.inl (Wd88 hw)) (by decide) (t := F1_) (t' := F3_) (by decide) (by decide))), Fld.other W F.2.2.2.2.2.2 (Or.inr (slot_ne (Or.inl (Wd84 hw)) (Or.inl (Wd88 hw)) (by decide) (t := FieldType.int) (t' := F3_) (by decide) (by decide)))⟩
theorem R_ND_set_left {Z : State} {h h' : Heap} {a : Addr} {v0 v1 v2 v3 v4 v5 : Value} {w : Value} {a0 : Array Value} (hw : HW a0 Z) (W : Wr h h' a (Jvm.RoadKit.slotOf Z "com/example/rosewood/rosewood/RosewoodMap$Node" "left" "Lcom/example/rosewood/rosewood/RosewoodMap$Node;") w) (F : R_ND Z h a v0 v1 v2 v3 v4 v5) : R_ND Z h' a v0 v1 w v3 v4 v5 := ⟨Exa.wr W F.1, Fld.other W F.2.1 (Or.inr (slot_ne (Or.inl (Wd86 hw)) (Or.inl (Wd102 hw)) (by decide) (t := F3_) (t' := F1_) (by decide) (by decide))), Fld.other W F.2.2.1 (Or.inr (slot_ne (Or.inl (Wd88 hw)) (Or.inl (Wd102 hw)) (by decide) (t := F3_) (t' := F1_) (by decide) (by decide))), Fld.same W F.2.2.2.1, Fld.other W F.2.2.2.2.1 (Or.inr (slot_ne (Or.inl (Wd104 hw)) (Or.inl (Wd102 hw)) (by decide) (t := F1_) (t' := F1_) (by decide) (by decide))), Fld.other W F.2.2.2.2.2.1 (Or.inr (slot_ne (Or.inl (Wd90 hw)) (Or.inl (Wd102 hw)) (by decide) (t := F1_) (t' := F1_) (by decide) (by decide))), Fld.other W F.2.2.2.2.2.2 (Or.inr (slot_ne (Or.inl (Wd84 hw)) (Or.inl (Wd102 hw)) (by decide) (t := FieldType.int) (t' := F1_) (by decide) (by decide)))⟩
theorem R_ND_set_right {Z : State} {h h' : Heap} {a : Addr} {v0 v1 v2 v3 v4 v5 : Value} {w : Value} {a0 : Array Value} (hw : HW a0 Z) (W : Wr h h' a (Jvm.RoadKit.slotOf Z "com/example/rosewood/rosewood/RosewoodMap$Node" "right" "Lcom/example/rosewood/rosewood/RosewoodMap$Node;") w) (F : R_ND Z h a v0 v1 v2 v3 v4 v5) : R_ND Z h' a v0 v1 v2 w v4 v5 := ⟨Exa.wr W F.1, Fld.other W F.2.1 (Or.inr (slot_ne (Or.inl (Wd86 hw)) (Or.inl (Wd104 hw)) (by decide) (t := F3_) (t' := F1_) (by decide) (by decide))), Fld.other W F.2.2.1 (Or.inr (slot_ne (Or.inl (Wd88 hw)) (Or.inl (Wd104 hw)) (by decide) (t := F3_) (t' := F1_) (by decide) (by decide))), Fld.other W F.2.2.2.1 (Or.inr (slot_ne (Or.inl (Wd102 hw)) (Or.inl (Wd104 hw)) (by decide) (t := F1_) (t' := F1_) (by decide) (by decide))), Fld.same W F.2.2.2.2.1, Fld.other W F.2.2.2.2.2.1 (Or.inr (slot_ne (Or.inl (Wd90 hw)) (Or.inl (Wd104 hw)) (by decide) (t := F1_) (t' := F1_) (by decide) (by decide))), Fld.other W F.2.2.2.2.2.2 (Or.inr (slot_ne (Or.inl (Wd84 hw)) (Or.inl (Wd104 hw)) (by decide) (t := FieldType.int) (t' := F1_) (by decide) (by decide)))⟩
theorem R_ND_set_parent {Z : State} {h h' : Heap} {a : Addr} {v0 v1 v2 v3 v4 v5 : Value} {w : Value} {a0 : Array Value} (hw : HW a0 Z) (W : Wr h h' a (Jvm.RoadKit.slotOf Z "com/example/rosewood/rosewood/RosewoodMap$Node" "parent" "Lcom/example/rosewood/rosewood/RosewoodMap$Node;") w) (F : R_ND Z h a v0 v1 v2 v3 v4 v5) : R_ND Z h' a v0 v1 v2 v3 w v5 := ⟨Exa.wr W F.1, Fld.other W F.2.1 (Or.inr (slot_ne (Or.inl (Wd86 hw)) (Or.inl (Wd90 hw)) (by decide) (t := F3_) (t' := F1_) (by decide) (by decide))), Fld.other W F.2.2.1 (Or.inr (slot_ne (Or.inl (Wd88 hw)) (Or.inl (Wd90 hw)) (by decide) (t := F3_) (t' := F1_) (by decide) (by decide))), Fld.other W F.2.2.2.1 (Or.inr (slot_ne (Or.inl (Wd102 hw)) (Or.inl (Wd90 hw)) (by decide) (t := F1_) (t' := F1_) (by decide) (by decide))), Fld.other W F.2.2.2.2.1 (Or.inr (slot_ne (Or.inl (Wd104 hw)) (Or.inl (Wd90 hw)) (by decide) (t := F1_) (t' := F1_) (by decide) (by decide))), Fld.same W F.2.2.2.2.2.1, Fld.other W F.2.2.2.2.2.2 (Or.inr (slot_ne (Or.inl (Wd84 hw)) (Or.inl (Wd90 hw)) (by decide) (t := FieldType.int) (t' := F1_) (by decide) (by decide)))⟩
theorem R_ND_set_redAndLeftCount {Z : State} {h h' : Heap} {a : Addr} {v0 v1 v2 v3 v4 v5 : Value} {w : Value} {a0 : Array Value} (hw : HW a0 Z) (W : Wr h h' a (Jvm.RoadKit.slotOf Z "com/example/rosewood/rosewood/RosewoodMap$Node" "redAndLeftCount" "I") w) (F : R_ND Z h a v0 v1 v2 v3 v4 v5) : R_ND Z h' a v0 v1 v2 v3 v4 w := ⟨Exa.wr W F.1, Fld.other W F.2.1 (Or.inr (slot_ne (Or.inl (Wd86 hw)) (Or.inl (Wd84 hw)) (by decide) (t := F3_) (t' := FieldType.int) (by decide) (by decide))), Fld.other W F.2.2.1 (Or.inr (slot_ne (Or.inl (Wd88 hw)) (Or.inl (Wd84 hw)) (by decide) (t := F3_) (t' := FieldType.int) (by decide) (by decide))), Fld.other W F.2.2.2.1 (Or.inr (slot_ne (Or.inl (Wd102 hw)) (Or.inl (Wd84 hw)) (by decide) (t := F1_) (t' := FieldType.int) (by decide) (by decide))), Fld.other W F.2.2.2.2.1 (Or.inr (slot_ne (Or.inl (Wd104 hw)) (Or.inl (Wd84 hw)) (by decide) (t := F1_) (t' := FieldType.int) (by decide) (by decide))), Fld.other W F.2.2.2.2.2.1 (Or.inr (slot_ne (Or.inl (Wd90 hw)) (Or.inl (Wd84 hw)) (by decide) (t := F1_) (t' := FieldType.int) (by decide) (by decide))), Fld.same W F.2.2.2.2.2.2⟩
def R_IN (Z : State) (h : Heap) (a : Addr) (v0 : Value) : Prop := Exa Z h a "java/lang/Integer" ∧ Fld Z h a "java/lang/Integer" "value" "I" v0
theorem R_IN_ext {Z : State} {h h' : Heap} {a : Addr} {v0 : Value} (E : Ext h h') (F : R_IN Z h a v0) : R_IN Z h' a v0 := ⟨Exa.ext E F.1, Fld.ext E F.2⟩
theorem R_IN_other {Z : State} {h h' : Heap} {a : Addr} {v0 : Value} {b : Addr} {sl : Nat} {w : Value} (W : Wr h h' b sl w) (F : R_IN Z h a v0) (q : a ≠ b) : R_IN Z h' a v0 := ⟨Exa.wr W F.1, Fld.other W F.2 (Or.inl q)⟩
theorem R_IN_keep {Z : State} {h h' : Heap} {a : Addr} {v0 : Value} {ws : List Addr} (F : R_IN Z h a v0) (K : Keep h h' ws) (q : a ∉ ws) : R_IN Z h' a v0 := ⟨Exa.keep F.1 K, Fld.keep F.2 K q⟩
theorem R_IN_set_value {Z : State} {h h' : Heap} {a : Addr} {v0 : Value} {w : Value} {a0 : Array Value} (hw : HW a0 Z) (W : Wr h h' a (Jvm.RoadKit.slotOf Z "java/lang/Integer" "value" "I") w) (F : R_IN Z h a v0) : R_IN Z h' a w := ⟨Exa.wr W F.1, Fld.same W F.2⟩
theorem own_box {i : Int32} (h1 : ¬ i < (-128 : Int32)) (h2 : ¬ (127 : Int32) < i) {n : Nat} (hn : n = (256 : Int32).toNatClampNeg) : ¬ ((i + (128 : Int32)) < 0 ∨ n ≤ (i + (128 : Int32)).toNatClampNeg) := by
  rw [Int32.lt_iff_toInt_lt] at h1 h2
  have q := c_iadd i 128; have r := rng32 (i + 128); have e : (128 : Int32).toInt = 128 := rfl
  have e1 : (-128 : Int32).toInt = -128 := rfl
  have e2 : (127 : Int32).toInt = 127 := rfl
  have e3 : (256 : Int32).toNatClampNeg = 256 := rfl
  have e0 : (0 : Int32).toInt = 0 := rfl
  have r0 := rng32 i
  rw [Int32.lt_iff_toInt_lt]
  simp only [Int32.toNatClampNeg] at *
  omega
theorem own_exane {Z : State} {h : Heap} {a b : Addr} {C D : String} (E : Exa Z h a C) (F : Exa Z h b D) (q : C ≠ D) : a ≠ b := Exa.ne E F q
theorem ef_27_R (m : MethodId) (x0 : Addr) : entryFrame m #[(.ref x0)] 1 = mkF m 0 #[vr x0] [] := by first | (simp [entryFrame, mkF, argsToLocals, Value.category]; done) | rfl
theorem pn_0 : plainName "java/lang/Number" = true := by first | (simp [plainName, overriddenIn]; done) | decide +kernel
theorem d27_0 : decode B0 0 = .ok (.aload_n 0, 1) := by decide +kernel
theorem d27_1 : decode B0 1 = .ok (.invokespecial 1, 3) := by decide +kernel
theorem d27_4 : decode B0 4 = .ok (.return_, 1) := by decide +kernel
theorem rm_init_1 (hw : HW a0 Z) (a1 : Addr) (h0 : Heap) (n0 : Nat) (Z0 : n0 ≤ h0.size)  :
    Ctr l Y0 B0 1 none [] (rmk 1 0 0 12) Z #[(.ref a1)] h0 (fun v h L => v = none ∧ Fr n0 L ∧ h = h0) := by
  refine own_enter pn_0 (fun p e s m below meth c s₁ hx hby hml hown hnm hret hlk hZ X0 e0 => ?_)
  have N0 := Fr.nil n0
  have K0 := Keep.refl h0 []
  rw [ef_27_R m _]
  refine g_aloadN X0 hx (hb hby d27_0) rfl rfl ?_
  refine g_init X0 hx hZ hown (hw _ (List.mem_of_getElem? (i := 163) rfl)) (Wd16 hw) (Wd17 hw) e0 (by rw [hml]; rfl) (hb hby d27_1) (by decide) (W := 0) (Nat.le_of_eq rfl) (by decide) (fun T1 X1 e1 => ?_)
  exact own_retV X1 hx hret hlk (hb hby d27_4) (by decide) (by decide) ⟨rfl, N0, e1⟩
theorem pd_0 : parseMethodDescriptor "()V" = some ⟨[], none⟩ := by decide +kernel
theorem lk0 {Z : State} {a0 : Array Value} (hw : HW a0 Z) : LkI "java/lang/Integer" 202 Y0 B0 1 [] none a0 Z := ⟨(hw _ (List.mem_of_getElem? (i := 157) rfl)), (hw _ (List.mem_of_getElem? (i := 158) rfl)), (hw _ (List.mem_of_getElem? (i := 162) rfl)), (hw _ (List.mem_of_getElem? (i := 161) rfl)), rfl, by decide, pd_0⟩
theorem fd_0 : parseFieldDescriptor "I" = some FieldType.int := by decide
theorem ef_26_RI (m : MethodId) (x0 : Addr) (x1 : Int32) : entryFrame m #[(.ref x0), (.int x1)] 2 = mkF m 0 #[vr x0, vi x1] [] := by first | (simp [entryFrame, mkF, argsToLocals, Value.category]; done) | rfl
theorem pn_1 : plainName "java/lang/Integer" = true := by first | (simp [plainName, overriddenIn]; done) | decide +kernel
theorem d26_0 : decode B1 0 = .ok (.aload_n 0, 1) := by decide +kernel
theorem d26_1 : decode B1 1 = .ok (.invokespecial 202, 3) := by decide +kernel
theorem d26_4 : decode B1 4 = .ok (.aload_n 0, 1) := by decide +kernel
theorem d26_5 : decode B1 5 = .ok (.iload_n 1, 1) := by decide +kernel
theorem d26_6 : decode B1 6 = .ok (.putfield 205, 3) := by decide +kernel
theorem d26_9 : decode B1 9 = .ok (.return_, 1) := by decide +kernel
theorem rm_init_0 (hw : HW a0 Z) (a1 : Addr) (i1 : Int32) (h0 : Heap) (n0 : Nat) (Z0 : n0 ≤ h0.size) (O_a1 : R_IN Z h0 a1 (.int 0)) (g_a1 : n0 ≤ a1) (hk0 : i1 < (-128 : Int32)) :
    Ctr l Y1 B1 2 none [] (rmk 2 0 0 24) Z #[(.ref a1), (.int i1)] h0 (fun v h L => v = none ∧ Fr n0 L ∧ Keep h0 h [a1] ∧ R_IN Z h a1 (.int i1)) := by
  refine own_enter pn_1 (fun p e s m below meth c s₁ hx hby hml hown hnm hret hlk hZ X0 e0 => ?_)
  have N0 := Fr.nil n0
  have K0 := Keep.refl h0 [a1]
  rw [ef_26_RI m _ _]
  refine g_aloadN X0 hx (hb hby d26_0) rfl rfl ?_
  refine g_I X0 hx hZ hown (lk0 hw) (rm_init_1 hw a1 h0 n0 Z0 ) e0 (hb hby d26_1) hml.symm rfl rfl (Nat.le_refl _) (by decide) (fun v1 T1 L1 X1 q1 => ?_)
  obtain ⟨rfl, M1, e1⟩ := q1
  have N1 := Fr.app N0 M1
  refine g_aloadN X1 hx (hb hby d26_4) rfl rfl ?_
  refine g_iloadN X1 hx (hb hby d26_5) rfl ?_
  refine g_putF X1 hx hZ hown (Wd65 hw) e1 O_a1.2 O_a1.1 (Or.inr ⟨(Wd66 hw), rfl, hnm⟩) (Wd153 hw) fd_0 rfl rfl (hb hby d26_6) (fun T2 h2 X2 e2 W2 => ?_)
  have N2 := Fr.snoc X2 N1 g_a1
  have O_a1_2 := R_IN_set_value hw W2 O_a1
  have K2 := Keep.wr K0 W2 (mw 0 rfl)
  exact own_retV X2 hx hret hlk (hb hby d26_9) (by decide) (by decide) (by rw [e2]; exact ⟨rfl, N2, K2, O_a1_2⟩)
theorem pd_1 : parseMethodDescriptor "(I)V" = some ⟨[FieldType.int], none⟩ := by decide +kernel
theorem lk1 {Z : State} {a0 : Array Value} (hw : HW a0 Z) : LkI "java/lang/Integer" 199 Y1 B1 2 [FieldType.int] none a0 Z := ⟨(hw _ (List.mem_of_getElem? (i := 154) rfl)), (hw _ (List.mem_of_getElem? (i := 155) rfl)), (hw _ (List.mem_of_getElem? (i := 156) rfl)), (Wd29 hw), rfl, by decide, pd_1⟩
theorem rm_init_2 (hw : HW a0 Z) (a1 : Addr) (i1 : Int32) (h0 : Heap) (n0 : Nat) (Z0 : n0 ≤ h0.size) (O_a1 : R_IN Z h0 a1 (.int 0)) (g_a1 : n0 ≤ a1) (hk0 : ¬ (i1 < (-128 : Int32))) (hk1 : (127 : Int32) < i1) :
    Ctr l Y1 B1 2 none [] (rmk 2 0 0 24) Z #[(.ref a1), (.int i1)] h0 (fun v h L => v = none ∧ Fr n0 L ∧ Keep h0 h [a1] ∧ R_IN Z h a1 (.int i1)) := by
  refine own_enter pn_1 (fun p e s m below meth c s₁ hx hby hml hown hnm hret hlk hZ X0 e0 => ?_)
  have N0 := Fr.nil n0
  have K0 := Keep.refl h0 [a1]
  rw [ef_26_RI m _ _]
  refine g_aloadN X0 hx (hb hby d26_0) rfl rfl ?_
  refine g_I X0 hx hZ hown (lk0 hw) (rm_init_1 hw a1 h0 n0 Z0 ) e0 (hb hby d26_1) hml.symm rfl rfl (Nat.le_refl _) (by decide) (fun v1 T1 L1 X1 q1 => ?_)
  obtain ⟨rfl, M1, e1⟩ := q1
  have N1 := Fr.app N0 M1
  refine g_aloadN X1 hx (hb hby d26_4) rfl rfl ?_
  refine g_iloadN X1 hx (hb hby d26_5) rfl ?_
  refine g_putF X1 hx hZ hown (Wd65 hw) e1 O_a1.2 O_a1.1 (Or.inr ⟨(Wd66 hw), rfl, hnm⟩) (Wd153 hw) fd_0 rfl rfl (hb hby d26_6) (fun T2 h2 X2 e2 W2 => ?_)
  have N2 := Fr.snoc X2 N1 g_a1
  have O_a1_2 := R_IN_set_value hw W2 O_a1
  have K2 := Keep.wr K0 W2 (mw 0 rfl)
  exact own_retV X2 hx hret hlk (hb hby d26_9) (by decide) (by decide) (by rw [e2]; exact ⟨rfl, N2, K2, O_a1_2⟩)
theorem ef_6_I (m : MethodId) (x0 : Int32) : entryFrame m #[(.int x0)] 1 = mkF m 0 #[vi x0] [] := by first | (simp [entryFrame, mkF, argsToLocals, Value.category]; done) | rfl
theorem d6_0 : decode B2 0 = .ok (.iload_n 0, 1) := by decide +kernel
theorem d6_1 : decode B2 1 = .ok (.bipush (-128), 2) := by decide +kernel
theorem d6_3 : decode B2 3 = .ok (.if_icmp .lt 20, 3) := by decide +kernel
theorem d6_6 : decode B2 6 = .ok (.iload_n 0, 1) := by decide +kernel
theorem d6_7 : decode B2 7 = .ok (.getstatic 191, 3) := by decide +kernel
theorem d6_10 : decode B2 10 = .ok (.if_icmp .gt 13, 3) := by decide +kernel
theorem d6_13 : decode B2 13 = .ok (.getstatic 195, 3) := by decide +kernel
theorem d6_16 : decode B2 16 = .ok (.iload_n 0, 1) := by decide +kernel
theorem d6_17 : decode B2 17 = .ok (.sipush 128, 3) := by decide +kernel
theorem d6_20 : decode B2 20 = .ok (.iadd, 1) := by decide +kernel
theorem d6_21 : decode B2 21 = .ok (.aaload, 1) := by decide +kernel
theorem d6_22 : decode B2 22 = .ok (.areturn, 1) := by decide +kernel
theorem d6_23 : decode B2 23 = .ok (.new 1, 3) := by decide +kernel
theorem d6_26 : decode B2 26 = .ok (.dup, 1) := by decide +kernel
theorem d6_27 : decode B2 27 = .ok (.iload_n 0, 1) := by decide +kernel
theorem d6_28 : decode B2 28 = .ok (.invokespecial 199, 3) := by decide +kernel
theorem d6_31 : decode B2 31 = .ok (.areturn, 1) := by decide +kernel
theorem rm_valueOf (hw : HW a0 Z) (wc : Addr) (clc : Cell) (i1 : Int32) (h0 : Heap) (n0 : Nat) (Z0 : n0 ≤ h0.size) (hN : Z.heap.size ≤ n0) (C1 : Sta Z Z.heap "java/lang/Integer$IntegerCache" "high" "I" (.int 127)) (C2 : Sta Z Z.heap "java/lang/Integer$IntegerCache" "cache" "[Ljava/lang/Integer;" (.ref wc)) (BX : Bxs Z wc clc "java/lang/Integer" "I" (256 : Int32) (fun j => .int (j - (128 : Int32)))) (KO : Keep Z.heap h0 []) :
    Ctr l Y2 B2 1 (some F4_) [] (rmk 3 1 1 60) Z #[(.int i1)] h0 (fun v h L => ∃ b, v = some (.ref b) ∧ Fr n0 L ∧ Keep h0 h [] ∧ R_IN Z h b (.int i1)) := by
  refine own_enter pn_1 (fun p e s m below meth c s₁ hx hby hml hown hnm hret hlk hZ X0 e0 => ?_)
  have D {q : Nat} {r} (z : decode B2 q = r) : decode c.code q = r := hb hby z
  have N0 := Fr.nil n0
  have K0 := Keep.refl h0 []
  have S_high := own_sta_keep C1 KO (fun _ q => nomatch q)
  have S_cache := own_sta_keep C2 KO (fun _ q => nomatch q)
  rw [ef_6_I m _]
  refine g_iloadN X0 hx (D d6_0) rfl ?_
  refine g_bipush X0 hx (-128 : Int32) (D d6_1) (by decide) ?_
  by_cases c3_1 : i1 < (-128 : Int32)
  · refine g_icmpYes X0 hx 23 (D d6_3) (tlt c3_1).1 (by decide) (by decide) ?_
    obtain ⟨T2, h2, X2, e2, E2, A2, D2, -, st2⟩ := newO X0 hx hZ hown (Wd58 hw) (Wd153 hw) (Wd29 hw) e0 (g := (mkF m 23 #[vi i1] [])) rfl (D d6_23) (by decide) (by decide)
    obtain ⟨b2, g2⟩ : ∃ z, z = h0.size := ⟨_, rfl⟩
    rw [← g2] at A2 D2 st2
    have g_b2 : n0 ≤ b2 := Nat.le_trans Z0 (Nat.le_of_eq g2.symm)
    have Z2 : n0 ≤ h2.size := Nat.le_trans Z0 E2.1
    have sz_b2 : h0.size ≤ b2 := Nat.le_trans K0.1 (Nat.le_of_eq g2.symm)
    have K2 := Keep.ext K0 E2
    have O2 : R_IN Z h2 b2 (.int 0) := ⟨A2, D2 (Or.inr (Wd66 hw)) (ty := FieldType.int) (by decide)⟩
    refine Go.mp st2 ?_
    show Go p e below (T2.setTop (mkF m 26 #[vi i1] [(.ref b2)])) _
    refine g_dup X2 hx (D d6_26) rfl ?_
    refine g_iloadN X2 hx (D d6_27) rfl ?_
    refine g_I X2 hx hZ hown (lk1 hw) (rm_init_0 hw b2 i1 h2 n0 Z2 O2 g_b2 c3_1) e2 (D d6_28) hml.symm rfl (rest := [(.ref b2)]) rfl (W := 1) (Nat.le_of_eq rfl) (by decide) (fun v3 T3 L3 X3 q3 => ?_)
    obtain ⟨rfl, M3, Kc3, Rk3_0⟩ := q3
    have N3 := Fr.app N0 M3
    have K3 := Keep.trans K2 Kc3 (own_memc (Or.inr sz_b2) own_memn)
    exact own_retA X3 hx hret hlk rfl rfl (D d6_31) (by decide) (by decide) (by rw [(rfl : T3.heap = T3.heap)]; exact ⟨b2, rfl, N3, K3, Rk3_0⟩)
  · refine g_icmpNo X0 hx (D d6_3) (flt c3_1).1 ?_
    refine g_iloadN X0 hx (D d6_6) rfl ?_
    obtain ⟨T4, X4, e4, st4⟩ := getS2 X0 hx hZ hown (host := "") (Or.inl (hw _ (List.mem_of_getElem? (i := 31) rfl))) Via.refl e0 S_high (g := (mkF m 7 #[vi i1] [(.int i1)])) rfl (D d6_7)
    refine Go.mp st4 ?_
    show Go p e below (T4.setTop (mkF m 10 #[vi i1] [(.int 127), (.int i1)])) _
    by_cases c10_5 : (127 : Int32) < i1
    · refine g_icmpYes X4 hx 23 (D d6_10) (tlt c10_5).2.2.1 (by decide) (by decide) ?_
      obtain ⟨T6, h6, X6, e6, E6, A6, D6, -, st6⟩ := newO X4 hx hZ hown (Wd58 hw) (Wd153 hw) (Wd29 hw) e4 (g := (mkF m 23 #[vi i1] [])) rfl (D d6_23) (by decide) (by decide)
      obtain ⟨b6, g6⟩ : ∃ z, z = h0.size := ⟨_, rfl⟩
      rw [← g6] at A6 D6 st6
      have g_b6 : n0 ≤ b6 := Nat.le_trans Z0 (Nat.le_of_eq g6.symm)
      have Z6 : n0 ≤ h6.size := Nat.le_trans Z0 E6.1
      have sz_b6 : h0.size ≤ b6 := Nat.le_trans K0.1 (Nat.le_of_eq g6.symm)
      have K6 := Keep.ext K0 E6
      have O6 : R_IN Z h6 b6 (.int 0) := ⟨A6, D6 (Or.inr (Wd66 hw)) (ty := FieldType.int) (by decide)⟩
      refine Go.mp st6 ?_
      show Go p e below (T6.setTop (mkF m 26 #[vi i1] [(.ref b6)])) _
      refine g_dup X6 hx (D d6_26) rfl ?_
      refine g_iloadN X6 hx (D d6_27) rfl ?_
      refine g_I X6 hx hZ hown (lk1 hw) (rm_init_2 hw b6 i1 h6 n0 Z6 O6 g_b6 c3_1 c10_5) e6 (D d6_28) hml.symm rfl (rest := [(.ref b6)]) rfl (W := 1) (Nat.le_of_eq rfl) (by decide) (fun v7 T7 L7 X7 q7 => ?_)
      obtain ⟨rfl, M7, Kc7, Rk7_0⟩ := q7
      have N7 := Fr.app N0 M7
      have K7 := Keep.trans K6 Kc7 (own_memc (Or.inr sz_b6) own_memn)
      exact own_retA X7 hx hret hlk rfl rfl (D d6_31) (by decide) (by decide) (by rw [(rfl : T7.heap = T7.heap)]; exact ⟨b6, rfl, N7, K7, Rk7_0⟩)
    · refine g_icmpNo X4 hx (D d6_10) (flt c10_5).2.2.1 ?_
      obtain ⟨T8, X8, e8, st8⟩ := getS2 X4 hx hZ hown (host := "") (Or.inl (hw _ (List.mem_of_getElem? (i := 33) rfl))) Via.refl e4 S_cache (g := (mkF m 13 #[vi i1] [])) rfl (D d6_13)
      refine Go.mp st8 ?_
      show Go p e below (T8.setTop (mkF m 16 #[vi i1] [(.ref wc)])) _
      refine g_iloadN X8 hx (D d6_16) rfl ?_
      refine g_sipush X8 hx (128 : Int32) (D d6_17) (by decide) ?_
      refine g_iadd X8 hx (D d6_20) ?_
      have hin := own_box c3_1 c10_5 BX.2.1
      obtain ⟨bo, hat, Eb, Fb⟩ := BX.2.2.2 _ hin
      have Ar : Arr Z h0 wc clc (.object "java/lang/Integer") := ⟨KO.2.1 _ _ BX.1.1 nl, BX.1.2⟩
      have O_bo : R_IN Z h0 bo (.int i1) := ⟨Exa.keep Eb KO, by have q : Fld Z h0 bo "java/lang/Integer" "value" "I" (.int (i1 + (128 : Int32) - (128 : Int32))) := Fld.keep Fb KO nl; rwa [show i1 + (128 : Int32) - (128 : Int32) = i1 from Int32.add_sub_cancel _ _] at q⟩
      refine Go.mp (fun _ k => X8.aaload hx (j := (i1 + (128 : Int32))) (v := .ref bo) (by rw [e8]; exact Ar.1) (State.isArrayOf_alike hZ.alike Ar.2.1) rfl Ar.2.2 hin hat (g := (mkF m 21 #[vi i1] [(.int (i1 + (128 : Int32))), (.ref wc)])) rfl rfl (D d6_21) _ k) ?_
      show Go p e below (T8.setTop (mkF m 22 #[vi i1] [(.ref bo)])) _
      exact own_retA X8 hx hret hlk rfl rfl (D d6_22) (by decide) (by decide) (by rw [e8]; exact ⟨bo, rfl, N0, K0, O_bo⟩)
def own_S (s : Int32) (P : Prop) : Prop := (s = (1 : Int32) ∧ P) ∨ (s = (0 : Int32) ∧ ¬ P)
theorem own_ix {args : Array Value} {Z : State} {j : Int32} (hj : ¬ j < 0) : (Term.sub (Term.index 0) (Term.int 128)).eval args Z none [j.toNatClampNeg] Z = some (.int (j - (128 : Int32))) := by
  simp [Term.eval, idx_at hj]
  exact (back32 hj).1
def own_R (p a w k m v : Int32) : Prop := (p < a ∧ m = p ∧ v = k) ∨ (p = a ∧ m = a ∧ v = k) ∨ (a < p ∧ m = a ∧ v = w)
def own_T (n b p a w k m v : Int32) : Prop := (n < b ∧ m = a ∧ v = w) ∨ (¬ n < b ∧ own_R p a w k m v)
theorem own_mod5n (x : Int32) : ¬ (((x &&& (2147483647 : Int32)) % (5 : Int32)) < (0 : Int32)) := by
  have a : 0 ≤ (x &&& (2147483647 : Int32)).toInt := (c_and x 2147483647 (by decide)).1
  have b := (c_irem (x &&& (2147483647 : Int32)) (5 : Int32) 5 rfl).1 a
  rw [Int32.lt_iff_toInt_lt, b]
  have e : (0 : Int32).toInt = 0 := rfl
  omega
theorem ef_25_R (m : MethodId) (x0 : Addr) : entryFrame m #[(.ref x0)] 1 = mkF m 0 #[vr x0] [] := by first | (simp [entryFrame, mkF, argsToLocals, Value.category]; done) | rfl
theorem d25_0 : decode B3 0 = .ok (.aload_n 0, 1) := by decide +kernel
theorem d25_1 : decode B3 1 = .ok (.getfield 205, 3) := by decide +kernel
theorem d25_4 : decode B3 4 = .ok (.ireturn, 1) := by decide +kernel
theorem rm_intValue_3 (hw : HW a0 Z) (a1 : Addr) (i1 : Int32) (h0 : Heap) (n0 : Nat) (Z0 : n0 ≤ h0.size) (O_a1 : R_IN Z h0 a1 (.int i1)) :
    Ctr l Y3 B3 1 (some FieldType.int) [] (rmk 0 0 0 0) Z #[(.ref a1)] h0 (fun v h L => v = some (.int i1) ∧ Fr n0 L ∧ h = h0) := by
  refine own_enter pn_1 (fun p e s m below meth c s₁ hx hby hml hown hnm hret hlk hZ X0 e0 => ?_)
  have N0 := Fr.nil n0
  have K0 := Keep.refl h0 []
  rw [ef_25_R m _]
  refine g_aloadN X0 hx (hb hby d25_0) rfl rfl ?_
  refine g_getF X0 hx hZ hown (Wd65 hw) e0 O_a1.2 (hb hby d25_1) (fun T1 X1 e1 => ?_)
  exact own_retI X1 hx hret hlk (hb hby d25_4) (by decide) (by decide) ⟨rfl, N0, e1⟩
theorem pd_2 : parseMethodDescriptor "()I" = some ⟨[], some FieldType.int⟩ := by decide +kernel
theorem lk2 {Z : State} {a0 : Array Value} (hw : HW a0 Z) : LkV "com/example/rosewood/rosewood/RosewoodMapFirstPinLaw" 34 Y3 "java/lang/Integer" B3 1 (some FieldType.int) [] (some FieldType.int) a0 Z := ⟨(hw _ (List.mem_of_getElem? (i := 147) rfl)), (hw _ (List.mem_of_getElem? (i := 148) rfl)), (hw _ (List.mem_of_getElem? (i := 150) rfl)), (hw _ (List.mem_of_getElem? (i := 149) rfl)), (hw _ (List.mem_of_getElem? (i := 151) rfl)), (Wd29 hw), by decide, pd_2⟩
theorem seg_227 (hw : HW a0 Z) (p1 p2 : Int32) (p3 p4 : Int32) (p5 n : Int32) (M f : Addr) (uf : Value) (up : Value) (cf : Int32) (km vm : Addr) (ma va : Int32) (mm vv : Int32) (h0 : Heap) (n0 : Nat) (Z0 : n0 ≤ h0.size) (O_f : R_ND Z h0 f (.ref km) (.ref vm) .null uf up (.int cf)) (O_km : R_IN Z h0 km (.int ma)) (O_vm : R_IN Z h0 vm (.int va)) (ne_f_km : f ≠ km) (ne_f_vm : f ≠ vm) (g_f : n0 ≤ f) (eqm : ma = mm) (eqv : va = vv) {p : Program} {e : Env} {s : State} {m : MethodId} {below : List Frame} {meth : Method} {c : Code} {args : Array Value} {s₁ : State} {lo : List Loc} (hx : p.tables.exec = Jvm.exec) (hby : c.code = code) (hml : c.maxLocals = maxLocals) (hown : s.vm.findClass "com/example/rosewood/rosewood/RosewoodMapFirstPinLaw" = some m.cls) (hnm : meth.name = "law") (hret : meth.sig.returnType = ret) (hlk : meth.locks = false) (hZ : Z.Warmed39 s.vm) (X0 : Stand p l e room_1 s m args below meth c s₁ lo 13 39) (e0 : s₁.heap = h0) (N0 : Fr n0 lo) :
    Go p e below (s₁.setTop (mkF m 227 #[vi p1, vi p2, vi p3, vi p4, vi p5, vi n, vr M, vr f, vi mm, vi vv] [])) (FinE s room_1.cells room_1.slots (fun v h L => v = some (.int 1) ∧ Fr n0 L)) := by
  have D {q : Nat} {r} (z : decode code q = r) : decode c.code q = r := hb hby z
  refine g_aload X0 hx (D at_227) rfl rfl ?_
  refine g_getF X0 hx hZ hown (Wd144 hw) e0 O_f.2.1 (D at_229) (fun T1 X1 e1 => ?_)
  refine g_nullNo X1 hx (D at_232) ?_
  refine g_aload X1 hx (D at_235) rfl rfl ?_
  refine g_getF X1 hx hZ hown (Wd145 hw) e1 O_f.2.2.1 (D at_237) (fun T2 X2 e2 => ?_)
  refine g_nonnullYes X2 hx 245 (D at_240) (by decide) (by decide) ?_
  refine g_aload X2 hx (D at_245) rfl rfl ?_
  refine g_getF X2 hx hZ hown (Wd144 hw) e2 O_f.2.1 (D at_247) (fun T3 X3 e3 => ?_)
  refine g_cast X3 hx hZ hown (Wd146 hw) e3 (Ins.self O_km.1) (D at_250) (fun T4 X4 e4 => ?_)
  refine g_V X4 hx hZ hown (lk2 hw) (rm_intValue_3 hw km ma h0 n0 Z0 O_km) e4 O_km.1 (D at_253) hml.symm rfl rfl (Nat.le_refl _) (by decide) (fun v5 T5 L5 X5 q5 => ?_)
  obtain ⟨rfl, M5, e5⟩ := q5
  have N5 := Fr.app N0 M5
  refine g_iload X5 hx (D at_256) rfl ?_
  have c258_6 : ma = mm := eqm
  refine g_icmpNo X5 hx (D at_258) (teq c258_6).2 ?_
  refine g_aload X5 hx (D at_261) rfl rfl ?_
  refine g_getF X5 hx hZ hown (Wd145 hw) e5 O_f.2.2.1 (D at_263) (fun T7 X7 e7 => ?_)
  refine g_cast X7 hx hZ hown (Wd146 hw) e7 (Ins.self O_vm.1) (D at_266) (fun T8 X8 e8 => ?_)
  refine g_V X8 hx hZ hown (lk2 hw) (rm_intValue_3 hw vm va h0 n0 Z0 O_vm) e8 O_vm.1 (D at_269) hml.symm rfl rfl (Nat.le_refl _) (by decide) (fun v9 T9 L9 X9 q9 => ?_)
  obtain ⟨rfl, M9, e9⟩ := q9
  have N9 := Fr.app N5 M9
  refine g_iload X9 hx (D at_272) rfl ?_
  have c274_10 : va = vv := eqv
  refine g_icmpNo X9 hx (D at_274) (teq c274_10).2 ?_
  refine g_aload X9 hx (D at_277) rfl rfl ?_
  refine g_getF X9 hx hZ hown (hw _ (List.mem_of_getElem? (i := 152) rfl)) e9 O_f.2.2.2.1 (D at_279) (fun T11 X11 e11 => ?_)
  refine g_nonnullNo X11 hx (D at_282) ?_
  refine g_iconst X11 hx (1 : Int32) (D at_285) (by decide) ?_
  refine g_goto X11 hx 290 (D at_286) (by decide) (by decide) ?_
  exact own_retZ X11 hx hret hlk (D at_290) (by decide) (by decide) (by decide) ⟨rfl, N9⟩
theorem seg_194 (hw : HW a0 Z) (p1 p2 : Int32) (p3 p4 : Int32) (p5 n : Int32) (M f : Addr) (uf : Value) (up : Value) (cf : Int32) (km vm : Addr) (ma va : Int32) (mm vv : Int32) (h0 : Heap) (n0 : Nat) (Z0 : n0 ≤ h0.size) (O_f : R_ND Z h0 f (.ref km) (.ref vm) .null uf up (.int cf)) (O_km : R_IN Z h0 km (.int ma)) (O_vm : R_IN Z h0 vm (.int va)) (ne_f_km : f ≠ km) (ne_f_vm : f ≠ vm) (g_f : n0 ≤ f) (Td : own_T n (4 : Int32) p5 mm vv (3 : Int32) ma va) {p : Program} {e : Env} {s : State} {m : MethodId} {below : List Frame} {meth : Method} {c : Code} {args : Array Value} {s₁ : State} {lo : List Loc} (hx : p.tables.exec = Jvm.exec) (hby : c.code = code) (hml : c.maxLocals = maxLocals) (hown : s.vm.findClass "com/example/rosewood/rosewood/RosewoodMapFirstPinLaw" = some m.cls) (hnm : meth.name = "law") (hret : meth.sig.returnType = ret) (hlk : meth.locks = false) (hZ : Z.Warmed39 s.vm) (X0 : Stand p l e room_1 s m args below meth c s₁ lo 13 39) (e0 : s₁.heap = h0) (N0 : Fr n0 lo) :
    Go p e below (s₁.setTop (mkF m 194 #[vi p1, vi p2, vi p3, vi p4, vi p5, vi n, vr M, vr f, vi mm, vi vv] [])) (FinE s room_1.cells room_1.slots (fun v h L => v = some (.int 1) ∧ Fr n0 L)) := by
  refine g_iload X0 hx (hb hby at_194) rfl ?_
  refine g_iconst X0 hx (4 : Int32) (hb hby at_196) (by decide) ?_
  by_cases c197_1 : n < (4 : Int32)
  · refine g_icmpYes X0 hx 227 (hb hby at_197) (tlt c197_1).1 (by decide) (by decide) ?_
    exact seg_227 hw p1 p2 p3 p4 p5 n M f uf up cf km vm ma va mm vv h0 n0 Z0 O_f O_km O_vm ne_f_km ne_f_vm g_f (by have u0 : n < (4 : Int32) := c197_1; have u1 := Td; (try simp only [own_T, own_R, Int32.lt_iff_toInt_lt, ← Int32.toInt_inj, Int32.reduceToInt] at u0 u1) <;> (try simp only [own_T, own_R, Int32.lt_iff_toInt_lt, ← Int32.toInt_inj, Int32.reduceToInt]) <;> first | omega | (simp; done) | (simp; omega)) (by have u0 : n < (4 : Int32) := c197_1; have u1 := Td; (try simp only [own_T, own_R, Int32.lt_iff_toInt_lt, ← Int32.toInt_inj, Int32.reduceToInt] at u0 u1) <;> (try simp only [own_T, own_R, Int32.lt_iff_toInt_lt, ← Int32.toInt_inj, Int32.reduceToInt]) <;> first | omega | (simp; done) | (simp; omega)) hx hby hml hown hnm hret hlk hZ (Stand.more X0 (by decide) (by decide)) e0 N0
  · refine g_icmpNo X0 hx (hb hby at_197) (flt c197_1).1 ?_
    refine g_iload X0 hx (hb hby at_200) rfl ?_
    refine g_iload X0 hx (hb hby at_202) rfl ?_
    by_cases c204_2 : p5 < mm
    · refine g_icmpNo X0 hx (hb hby at_204) (tlt c204_2).2.1 ?_
      refine g_iload X0 hx (hb hby at_207) rfl ?_
      refine g_istore X0 hx #[vi p1, vi p2, vi p3, vi p4, vi p5, vi n, vr M, vr f, vi p5, vi vv] (hb hby at_209) rfl ?_
      refine g_iconst X0 hx (3 : Int32) (hb hby at_211) (by decide) ?_
      refine g_istore X0 hx #[vi p1, vi p2, vi p3, vi p4, vi p5, vi n, vr M, vr f, vi p5, vi 3] (hb hby at_212) rfl ?_
      refine g_goto X0 hx 227 (hb hby at_214) (by decide) (by decide) ?_
      exact seg_227 hw p1 p2 p3 p4 p5 n M f uf up cf km vm ma va p5 (3 : Int32) h0 n0 Z0 O_f O_km O_vm ne_f_km ne_f_vm g_f (by have u0 : ¬ (n < (4 : Int32)) := c197_1; have u1 : p5 < mm := c204_2; have u2 := Td; (try simp only [own_T, own_R, Int32.lt_iff_toInt_lt, ← Int32.toInt_inj, Int32.reduceToInt] at u0 u1 u2) <;> (try simp only [own_T, own_R, Int32.lt_iff_toInt_lt, ← Int32.toInt_inj, Int32.reduceToInt]) <;> first | omega | (simp; done) | (simp; omega)) (by have u0 : ¬ (n < (4 : Int32)) := c197_1; have u1 : p5 < mm := c204_2; have u2 := Td; (try simp only [own_T, own_R, Int32.lt_iff_toInt_lt, ← Int32.toInt_inj, Int32.reduceToInt] at u0 u1 u2) <;> (try simp only [own_T, own_R, Int32.lt_iff_toInt_lt, ← Int32.toInt_inj, Int32.reduceToInt]) <;> first | omega | (simp; done) | (simp; omega)) hx hby hml hown hnm hret hlk hZ (Stand.more X0 (by decide) (by decide)) e0 N0
    · refine g_icmpYes X0 hx 217 (hb hby at_204) (flt c204_2).2.1 (by decide) (by decide) ?_
      refine g_iload X0 hx (hb hby at_217) rfl ?_
      refine g_iload X0 hx (hb hby at_219) rfl ?_
      by_cases c221_3 : p5 = mm
      · refine g_icmpNo X0 hx (hb hby at_221) (teq c221_3).2 ?_
        refine g_iconst X0 hx (3 : Int32) (hb hby at_224) (by decide) ?_
        refine g_istore X0 hx #[vi p1, vi p2, vi p3, vi p4, vi p5, vi n, vr M, vr f, vi mm, vi 3] (hb hby at_225) rfl ?_
        exact seg_227 hw p1 p2 p3 p4 p5 n M f uf up cf km vm ma va mm (3 : Int32) h0 n0 Z0 O_f O_km O_vm ne_f_km ne_f_vm g_f (by have u0 : ¬ (n < (4 : Int32)) := c197_1; have u1 : ¬ (p5 < mm) := c204_2; have u2 : p5 = mm := c221_3; have u3 := Td; (try simp only [own_T, own_R, Int32.lt_iff_toInt_lt, ← Int32.toInt_inj, Int32.reduceToInt] at u0 u1 u2 u3) <;> (try simp only [own_T, own_R, Int32.lt_iff_toInt_lt, ← Int32.toInt_inj, Int32.reduceToInt]) <;> first | omega | (simp; done) | (simp; omega)) (by have u0 : ¬ (n < (4 : Int32)) := c197_1; have u1 : ¬ (p5 < mm) := c204_2; have u2 : p5 = mm := c221_3; have u3 := Td; (try simp only [own_T, own_R, Int32.lt_iff_toInt_lt, ← Int32.toInt_inj, Int32.reduceToInt] at u0 u1 u2 u3) <;> (try simp only [own_T, own_R, Int32.lt_iff_toInt_lt, ← Int32.toInt_inj, Int32.reduceToInt]) <;> first | omega | (simp; done) | (simp; omega)) hx hby hml hown hnm hret hlk hZ (Stand.more X0 (by decide) (by decide)) e0 N0
      · refine g_icmpYes X0 hx 227 (hb hby at_221) (feq c221_3).2 (by decide) (by decide) ?_
        exact seg_227 hw p1 p2 p3 p4 p5 n M f uf up cf km vm ma va mm vv h0 n0 Z0 O_f O_km O_vm ne_f_km ne_f_vm g_f (by have u0 : ¬ (n < (4 : Int32)) := c197_1; have u1 : ¬ (p5 < mm) := c204_2; have u2 : ¬ (p5 = mm) := c221_3; have u3 := Td; (try simp only [own_T, own_R, Int32.lt_iff_toInt_lt, ← Int32.toInt_inj, Int32.reduceToInt] at u0 u1 u2 u3) <;> (try simp only [own_T, own_R, Int32.lt_iff_toInt_lt, ← Int32.toInt_inj, Int32.reduceToInt]) <;> first | omega | (simp; done) | (simp; omega)) (by have u0 : ¬ (n < (4 : Int32)) := c197_1; have u1 : ¬ (p5 < mm) := c204_2; have u2 : ¬ (p5 = mm) := c221_3; have u3 := Td; (try simp only [own_T, own_R, Int32.lt_iff_toInt_lt, ← Int32.toInt_inj, Int32.reduceToInt] at u0 u1 u2 u3) <;> (try simp only [own_T, own_R, Int32.lt_iff_toInt_lt, ← Int32.toInt_inj, Int32.reduceToInt]) <;> first | omega | (simp; done) | (simp; omega)) hx hby hml hown hnm hret hlk hZ (Stand.more X0 (by decide) (by decide)) e0 N0
theorem seg_164 (hw : HW a0 Z) (p1 p2 : Int32) (p3 p4 : Int32) (p5 n : Int32) (M f : Addr) (uf : Value) (up : Value) (cf : Int32) (km vm : Addr) (ma va : Int32) (mm vv : Int32) (m3 v3 : Int32) (h0 : Heap) (n0 : Nat) (Z0 : n0 ≤ h0.size) (O_f : R_ND Z h0 f (.ref km) (.ref vm) .null uf up (.int cf)) (O_km : R_IN Z h0 km (.int ma)) (O_vm : R_IN Z h0 vm (.int va)) (ne_f_km : f ≠ km) (ne_f_vm : f ≠ vm) (g_f : n0 ≤ f) (Tc : own_T n (3 : Int32) p4 mm vv (2 : Int32) m3 v3) (Td : own_T n (4 : Int32) p5 m3 v3 (3 : Int32) ma va) {p : Program} {e : Env} {s : State} {m : MethodId} {below : List Frame} {meth : Method} {c : Code} {args : Array Value} {s₁ : State} {lo : List Loc} (hx : p.tables.exec = Jvm.exec) (hby : c.code = code) (hml : c.maxLocals = maxLocals) (hown : s.vm.findClass "com/example/rosewood/rosewood/RosewoodMapFirstPinLaw" = some m.cls) (hnm : meth.name = "law") (hret : meth.sig.returnType = ret) (hlk : meth.locks = false) (hZ : Z.Warmed39 s.vm) (X0 : Stand p l e room_1 s m args below meth c s₁ lo 13 39) (e0 : s₁.heap = h0) (N0 : Fr n0 lo) :
    Go p e below (s₁.setTop (mkF m 164 #[vi p1, vi p2, vi p3, vi p4, vi p5, vi n, vr M, vr f, vi mm, vi vv] [])) (FinE s room_1.cells room_1.slots (fun v h L => v = some (.int 1) ∧ Fr n0 L)) := by
  refine g_iload X0 hx (hb hby at_164) rfl ?_
  refine g_iconst X0 hx (3 : Int32) (hb hby at_166) (by decide) ?_
  by_cases c167_1 : n < (3 : Int32)
  · refine g_icmpYes X0 hx 194 (hb hby at_167) (tlt c167_1).1 (by decide) (by decide) ?_
    exact seg_194 hw p1 p2 p3 p4 p5 n M f uf up cf km vm ma va mm vv h0 n0 Z0 O_f O_km O_vm ne_f_km ne_f_vm g_f (by have u0 : n < (3 : Int32) := c167_1; have u1 := Tc; have u2 := Td; (try simp only [own_T, own_R, Int32.lt_iff_toInt_lt, ← Int32.toInt_inj, Int32.reduceToInt] at u0 u1 u2) <;> (try simp only [own_T, own_R, Int32.lt_iff_toInt_lt, ← Int32.toInt_inj, Int32.reduceToInt]) <;> first | omega | (simp; done) | (simp; omega)) hx hby hml hown hnm hret hlk hZ (Stand.more X0 (by decide) (by decide)) e0 N0
  · refine g_icmpNo X0 hx (hb hby at_167) (flt c167_1).1 ?_
    refine g_iloadN X0 hx (hb hby at_170) rfl ?_
    refine g_iload X0 hx (hb hby at_171) rfl ?_
    by_cases c173_2 : p4 < mm
    · refine g_icmpNo X0 hx (hb hby at_173) (tlt c173_2).2.1 ?_
      refine g_iloadN X0 hx (hb hby at_176) rfl ?_
      refine g_istore X0 hx #[vi p1, vi p2, vi p3, vi p4, vi p5, vi n, vr M, vr f, vi p4, vi vv] (hb hby at_177) rfl ?_
      refine g_iconst X0 hx (2 : Int32) (hb hby at_179) (by decide) ?_
      refine g_istore X0 hx #[vi p1, vi p2, vi p3, vi p4, vi p5, vi n, vr M, vr f, vi p4, vi 2] (hb hby at_180) rfl ?_
      refine g_goto X0 hx 194 (hb hby at_182) (by decide) (by decide) ?_
      exact seg_194 hw p1 p2 p3 p4 p5 n M f uf up cf km vm ma va p4 (2 : Int32) h0 n0 Z0 O_f O_km O_vm ne_f_km ne_f_vm g_f (by have u0 : ¬ (n < (3 : Int32)) := c167_1; have u1 : p4 < mm := c173_2; have u2 := Tc; have u3 := Td; (try simp only [own_T, own_R, Int32.lt_iff_toInt_lt, ← Int32.toInt_inj, Int32.reduceToInt] at u0 u1 u2 u3) <;> (try simp only [own_T, own_R, Int32.lt_iff_toInt_lt, ← Int32.toInt_inj, Int32.reduceToInt]) <;> first | omega | (simp; done) | (simp; omega)) hx hby hml hown hnm hret hlk hZ (Stand.more X0 (by decide) (by decide)) e0 N0
    · refine g_icmpYes X0 hx 185 (hb hby at_173) (flt c173_2).2.1 (by decide) (by decide) ?_
      refine g_iloadN X0 hx (hb hby at_185) rfl ?_
      refine g_iload X0 hx (hb hby at_186) rfl ?_
      by_cases c188_3 : p4 = mm
      · refine g_icmpNo X0 hx (hb hby at_188) (teq c188_3).2 ?_
        refine g_iconst X0 hx (2 : Int32) (hb hby at_191) (by decide) ?_
        refine g_istore X0 hx #[vi p1, vi p2, vi p3, vi p4, vi p5, vi n, vr M, vr f, vi mm, vi 2] (hb hby at_192) rfl ?_
        exact seg_194 hw p1 p2 p3 p4 p5 n M f uf up cf km vm ma va mm (2 : Int32) h0 n0 Z0 O_f O_km O_vm ne_f_km ne_f_vm g_f (by have u0 : ¬ (n < (3 : Int32)) := c167_1; have u1 : ¬ (p4 < mm) := c173_2; have u2 : p4 = mm := c188_3; have u3 := Tc; have u4 := Td; (try simp only [own_T, own_R, Int32.lt_iff_toInt_lt, ← Int32.toInt_inj, Int32.reduceToInt] at u0 u1 u2 u3 u4) <;> (try simp only [own_T, own_R, Int32.lt_iff_toInt_lt, ← Int32.toInt_inj, Int32.reduceToInt]) <;> first | omega | (simp; done) | (simp; omega)) hx hby hml hown hnm hret hlk hZ (Stand.more X0 (by decide) (by decide)) e0 N0
      · refine g_icmpYes X0 hx 194 (hb hby at_188) (feq c188_3).2 (by decide) (by decide) ?_
        exact seg_194 hw p1 p2 p3 p4 p5 n M f uf up cf km vm ma va mm vv h0 n0 Z0 O_f O_km O_vm ne_f_km ne_f_vm g_f (by have u0 : ¬ (n < (3 : Int32)) := c167_1; have u1 : ¬ (p4 < mm) := c173_2; have u2 : ¬ (p4 = mm) := c188_3; have u3 := Tc; have u4 := Td; (try simp only [own_T, own_R, Int32.lt_iff_toInt_lt, ← Int32.toInt_inj, Int32.reduceToInt] at u0 u1 u2 u3 u4) <;> (try simp only [own_T, own_R, Int32.lt_iff_toInt_lt, ← Int32.toInt_inj, Int32.reduceToInt]) <;> first | omega | (simp; done) | (simp; omega)) hx hby hml hown hnm hret hlk hZ (Stand.more X0 (by decide) (by decide)) e0 N0
theorem seg_134 (hw : HW a0 Z) (p1 p2 : Int32) (p3 p4 : Int32) (p5 n : Int32) (M f : Addr) (uf : Value) (up : Value) (cf : Int32) (km vm : Addr) (ma va : Int32) (m2 v2 : Int32) (m3 v3 : Int32) (h0 : Heap) (n0 : Nat) (Z0 : n0 ≤ h0.size) (O_f : R_ND Z h0 f (.ref km) (.ref vm) .null uf up (.int cf)) (O_km : R_IN Z h0 km (.int ma)) (O_vm : R_IN Z h0 vm (.int va)) (ne_f_km : f ≠ km) (ne_f_vm : f ≠ vm) (g_f : n0 ≤ f) (Tb : own_T n (2 : Int32) p3 p2 (0 : Int32) (1 : Int32) m2 v2) (Tc : own_T n (3 : Int32) p4 m2 v2 (2 : Int32) m3 v3) (Td : own_T n (4 : Int32) p5 m3 v3 (3 : Int32) ma va) {p : Program} {e : Env} {s : State} {m : MethodId} {below : List Frame} {meth : Method} {c : Code} {args : Array Value} {s₁ : State} {lo : List Loc} (hx : p.tables.exec = Jvm.exec) (hby : c.code = code) (hml : c.maxLocals = maxLocals) (hown : s.vm.findClass "com/example/rosewood/rosewood/RosewoodMapFirstPinLaw" = some m.cls) (hnm : meth.name = "law") (hret : meth.sig.returnType = ret) (hlk : meth.locks = false) (hZ : Z.Warmed39 s.vm) (X0 : Stand p l e room_1 s m args below meth c s₁ lo 13 39) (e0 : s₁.heap = h0) (N0 : Fr n0 lo) :
    Go p e below (s₁.setTop (mkF m 134 #[vi p1, vi p2, vi p3, vi p4, vi p5, vi n, vr M, vr f, vi p2, vi 0] [])) (FinE s room_1.cells room_1.slots (fun v h L => v = some (.int 1) ∧ Fr n0 L)) := by
  refine g_iload X0 hx (hb hby at_134) rfl ?_
  refine g_iconst X0 hx (2 : Int32) (hb hby at_136) (by decide) ?_
  by_cases c137_1 : n < (2 : Int32)
  · refine g_icmpYes X0 hx 164 (hb hby at_137) (tlt c137_1).1 (by decide) (by decide) ?_
    exact seg_164 hw p1 p2 p3 p4 p5 n M f uf up cf km vm ma va p2 (0 : Int32) m3 v3 h0 n0 Z0 O_f O_km O_vm ne_f_km ne_f_vm g_f (by have u0 : n < (2 : Int32) := c137_1; have u1 := Tb; have u2 := Tc; have u3 := Td; (try simp only [own_T, own_R, Int32.lt_iff_toInt_lt, ← Int32.toInt_inj, Int32.reduceToInt] at u0 u1 u2 u3) <;> (try simp only [own_T, own_R, Int32.lt_iff_toInt_lt, ← Int32.toInt_inj, Int32.reduceToInt]) <;> first | omega | (simp; done) | (simp; omega)) Td hx hby hml hown hnm hret hlk hZ (Stand.more X0 (by decide) (by decide)) e0 N0
  · refine g_icmpNo X0 hx (hb hby at_137) (flt c137_1).1 ?_
    refine g_iloadN X0 hx (hb hby at_140) rfl ?_
    refine g_iload X0 hx (hb hby at_141) rfl ?_
    by_cases c143_2 : p3 < p2
    · refine g_icmpNo X0 hx (hb hby at_143) (tlt c143_2).2.1 ?_
      refine g_iloadN X0 hx (hb hby at_146) rfl ?_
      refine g_istore X0 hx #[vi p1, vi p2, vi p3, vi p4, vi p5, vi n, vr M, vr f, vi p3, vi 0] (hb hby at_147) rfl ?_
      refine g_iconst X0 hx (1 : Int32) (hb hby at_149) (by decide) ?_
      refine g_istore X0 hx #[vi p1, vi p2, vi p3, vi p4, vi p5, vi n, vr M, vr f, vi p3, vi 1] (hb hby at_150) rfl ?_
      refine g_goto X0 hx 164 (hb hby at_152) (by decide) (by decide) ?_
      exact seg_164 hw p1 p2 p3 p4 p5 n M f uf up cf km vm ma va p3 (1 : Int32) m3 v3 h0 n0 Z0 O_f O_km O_vm ne_f_km ne_f_vm g_f (by have u0 : ¬ (n < (2 : Int32)) := c137_1; have u1 : p3 < p2 := c143_2; have u2 := Tb; have u3 := Tc; have u4 := Td; (try simp only [own_T, own_R, Int32.lt_iff_toInt_lt, ← Int32.toInt_inj, Int32.reduceToInt] at u0 u1 u2 u3 u4) <;> (try simp only [own_T, own_R, Int32.lt_iff_toInt_lt, ← Int32.toInt_inj, Int32.reduceToInt]) <;> first | omega | (simp; done) | (simp; omega)) Td hx hby hml hown hnm hret hlk hZ (Stand.more X0 (by decide) (by decide)) e0 N0
    · refine g_icmpYes X0 hx 155 (hb hby at_143) (flt c143_2).2.1 (by decide) (by decide) ?_
      refine g_iloadN X0 hx (hb hby at_155) rfl ?_
      refine g_iload X0 hx (hb hby at_156) rfl ?_
      by_cases c158_3 : p3 = p2
      · refine g_icmpNo X0 hx (hb hby at_158) (teq c158_3).2 ?_
        refine g_iconst X0 hx (1 : Int32) (hb hby at_161) (by decide) ?_
        refine g_istore X0 hx #[vi p1, vi p2, vi p3, vi p4, vi p5, vi n, vr M, vr f, vi p2, vi 1] (hb hby at_162) rfl ?_
        exact seg_164 hw p1 p2 p3 p4 p5 n M f uf up cf km vm ma va p2 (1 : Int32) m3 v3 h0 n0 Z0 O_f O_km O_vm ne_f_km ne_f_vm g_f (by have u0 : ¬ (n < (2 : Int32)) := c137_1; have u1 : ¬ (p3 < p2) := c143_2; have u2 : p3 = p2 := c158_3; have u3 := Tb; have u4 := Tc; have u5 := Td; (try simp only [own_T, own_R, Int32.lt_iff_toInt_lt, ← Int32.toInt_inj, Int32.reduceToInt] at u0 u1 u2 u3 u4 u5) <;> (try simp only [own_T, own_R, Int32.lt_iff_toInt_lt, ← Int32.toInt_inj, Int32.reduceToInt]) <;> first | omega | (simp; done) | (simp; omega)) Td hx hby hml hown hnm hret hlk hZ (Stand.more X0 (by decide) (by decide)) e0 N0
      · refine g_icmpYes X0 hx 164 (hb hby at_158) (feq c158_3).2 (by decide) (by decide) ?_
        exact seg_164 hw p1 p2 p3 p4 p5 n M f uf up cf km vm ma va p2 (0 : Int32) m3 v3 h0 n0 Z0 O_f O_km O_vm ne_f_km ne_f_vm g_f (by have u0 : ¬ (n < (2 : Int32)) := c137_1; have u1 : ¬ (p3 < p2) := c143_2; have u2 : ¬ (p3 = p2) := c158_3; have u3 := Tb; have u4 := Tc; have u5 := Td; (try simp only [own_T, own_R, Int32.lt_iff_toInt_lt, ← Int32.toInt_inj, Int32.reduceToInt] at u0 u1 u2 u3 u4 u5) <;> (try simp only [own_T, own_R, Int32.lt_iff_toInt_lt, ← Int32.toInt_inj, Int32.reduceToInt]) <;> first | omega | (simp; done) | (simp; omega)) Td hx hby hml hown hnm hret hlk hZ (Stand.more X0 (by decide) (by decide)) e0 N0
theorem ef_24_R (m : MethodId) (x0 : Addr) : entryFrame m #[(.ref x0)] 2 = mkF m 0 #[vr x0, vu] [] := by first | (simp [entryFrame, mkF, argsToLocals, Value.category]; done) | rfl
theorem pn_2 : plainName "com/example/rosewood/rosewood/RosewoodMap" = true := by first | (simp [plainName, overriddenIn]; done) | decide +kernel
theorem d24_0 : decode B4 0 = .ok (.aload_n 0, 1) := by decide +kernel
theorem d24_1 : decode B4 1 = .ok (.astore_n 1, 1) := by decide +kernel
theorem d24_2 : decode B4 2 = .ok (.aload_n 1, 1) := by decide +kernel
theorem d24_3 : decode B4 3 = .ok (.getfield 211, 3) := by decide +kernel
theorem d24_6 : decode B4 6 = .ok (.ifnull 11, 3) := by decide +kernel
theorem d24_17 : decode B4 17 = .ok (.aload_n 1, 1) := by decide +kernel
theorem d24_18 : decode B4 18 = .ok (.areturn, 1) := by decide +kernel
theorem rm_leftmost_5 (hw : HW a0 Z) (a1 a2 a3 : Addr) (u1 : Value) (i1 : Int32) (h0 : Heap) (n0 : Nat) (Z0 : n0 ≤ h0.size) (O_a1 : R_ND Z h0 a1 (.ref a2) (.ref a3) .null u1 .null (.int i1)) :
    Ctr l Y4 B4 2 (some F1_) [] (rmk 0 0 0 0) Z #[(.ref a1)] h0 (fun v h L => v = some (.ref a1) ∧ Fr n0 L ∧ h = h0) := by
  refine own_enter pn_2 (fun p e s m below meth c s₁ hx hby hml hown hnm hret hlk hZ X0 e0 => ?_)
  have N0 := Fr.nil n0
  have K0 := Keep.refl h0 []
  rw [ef_24_R m _]
  refine g_aloadN X0 hx (hb hby d24_0) rfl rfl ?_
  refine g_astoreN X0 hx #[vr a1, vr a1] (hb hby d24_1) rfl rfl ?_
  refine g_aloadN X0 hx (hb hby d24_2) rfl rfl ?_
  refine g_getF X0 hx hZ hown (Wd101 hw) e0 O_a1.2.2.2.1 (hb hby d24_3) (fun T1 X1 e1 => ?_)
  refine g_nullYes X1 hx 17 (hb hby d24_6) (by decide) (by decide) ?_
  refine g_aloadN X1 hx (hb hby d24_17) rfl rfl ?_
  exact own_retA X1 hx hret hlk rfl rfl (hb hby d24_18) (by decide) (by decide) ⟨rfl, N0, e1⟩
theorem pd_3 : parseMethodDescriptor "(Lcom/example/rosewood/rosewood/RosewoodMap$Node;)Lcom/example/rosewood/rosewood/RosewoodMap$Node;" = some ⟨[F1_], some F1_⟩ := by decide +kernel
theorem lk3 {Z : State} {a0 : Array Value} (hw : HW a0 Z) : LkS "com/example/rosewood/rosewood/RosewoodMap" 272 Y4 B4 2 (some F1_) [F1_] (some F1_) a0 Z := ⟨(hw _ (List.mem_of_getElem? (i := 141) rfl)), (hw _ (List.mem_of_getElem? (i := 142) rfl)), (Wd3 hw), (hw _ (List.mem_of_getElem? (i := 143) rfl)), by decide, pd_3⟩
theorem ef_5_R (m : MethodId) (x0 : Addr) : entryFrame m #[(.ref x0)] 1 = mkF m 0 #[vr x0] [] := by first | (simp [entryFrame, mkF, argsToLocals, Value.category]; done) | rfl
theorem d5_0 : decode B5 0 = .ok (.aload_n 0, 1) := by decide +kernel
theorem d5_1 : decode B5 1 = .ok (.getfield 22, 3) := by decide +kernel
theorem d5_4 : decode B5 4 = .ok (.ifnonnull 7, 3) := by decide +kernel
theorem d5_11 : decode B5 11 = .ok (.aload_n 0, 1) := by decide +kernel
theorem d5_12 : decode B5 12 = .ok (.getfield 22, 3) := by decide +kernel
theorem d5_15 : decode B5 15 = .ok (.invokestatic 272, 3) := by decide +kernel
theorem d5_18 : decode B5 18 = .ok (.areturn, 1) := by decide +kernel
theorem rm_first_4 (hw : HW a0 Z) (a1 a2 : Addr) (i1 i2 : Int32) (a3 a4 : Addr) (u1 : Value) (i3 : Int32) (h0 : Heap) (n0 : Nat) (Z0 : n0 ≤ h0.size) (O_a1 : R_MP Z h0 a1 .null (.ref a2) (.int i1) (.int i2)) (O_a2 : R_ND Z h0 a2 (.ref a3) (.ref a4) .null u1 .null (.int i3)) :
    Ctr l Y5 B5 1 (some F1_) [] (rmk 1 0 0 13) Z #[(.ref a1)] h0 (fun v h L => v = some (.ref a2) ∧ Fr n0 L ∧ h = h0) := by
  refine own_enter pn_2 (fun p e s m below meth c s₁ hx hby hml hown hnm hret hlk hZ X0 e0 => ?_)
  have N0 := Fr.nil n0
  have K0 := Keep.refl h0 []
  rw [ef_5_R m _]
  refine g_aloadN X0 hx (hb hby d5_0) rfl rfl ?_
  refine g_getF X0 hx hZ hown (Wd25 hw) e0 O_a1.2.2.1 (hb hby d5_1) (fun T1 X1 e1 => ?_)
  refine g_nonnullYes X1 hx 11 (hb hby d5_4) (by decide) (by decide) ?_
  refine g_aloadN X1 hx (hb hby d5_11) rfl rfl ?_
  refine g_getF X1 hx hZ hown (Wd25 hw) e1 O_a1.2.2.1 (hb hby d5_12) (fun T2 X2 e2 => ?_)
  refine g_S X2 hx hZ hown (lk3 hw) (rm_leftmost_5 hw a2 a3 a4 u1 i3 h0 n0 Z0 O_a2) e2 (hb hby d5_15) hml.symm rfl rfl (Nat.le_refl _) (by decide) (fun v3 T3 L3 X3 q3 => ?_)
  obtain ⟨rfl, M3, e3⟩ := q3
  have N3 := Fr.app N0 M3
  exact own_retA X3 hx hret hlk rfl rfl (hb hby d5_18) (by decide) (by decide) ⟨rfl, N3, e3⟩
theorem pd_4 : parseMethodDescriptor "()Lcom/example/rosewood/rosewood/RosewoodMap$Node;" = some ⟨[], some F1_⟩ := by decide +kernel
theorem lk4 {Z : State} {a0 : Array Value} (hw : HW a0 Z) : LkV "com/example/rosewood/rosewood/RosewoodMapFirstPinLaw" 21 Y5 "com/example/rosewood/rosewood/RosewoodMap" B5 1 (some F1_) [] (some F1_) a0 Z := ⟨(hw _ (List.mem_of_getElem? (i := 20) rfl)), (hw _ (List.mem_of_getElem? (i := 21) rfl)), (hw _ (List.mem_of_getElem? (i := 23) rfl)), (hw _ (List.mem_of_getElem? (i := 22) rfl)), (hw _ (List.mem_of_getElem? (i := 24) rfl)), (Wd3 hw), by decide, pd_4⟩
theorem seg_98_D1 (hw : HW a0 Z) (p1 p2 : Int32) (p3 p4 : Int32) (p5 n : Int32) (M : Addr) (mc sz : Int32) (r : Addr) (ur : Value) (cr : Int32) (km vm : Addr) (ma va : Int32) (m2 v2 : Int32) (m3 v3 : Int32) (h0 : Heap) (n0 : Nat) (Z0 : n0 ≤ h0.size) (O_M : R_MP Z h0 M .null (.ref r) (.int sz) (.int mc)) (O_r : R_ND Z h0 r (.ref km) (.ref vm) .null ur .null (.int cr)) (O_km : R_IN Z h0 km (.int ma)) (O_vm : R_IN Z h0 vm (.int va)) (ne_M_r : M ≠ r) (ne_M_km : M ≠ km) (ne_M_vm : M ≠ vm) (ne_r_km : r ≠ km) (ne_r_vm : r ≠ vm) (g_M : n0 ≤ M) (g_r : n0 ≤ r) (hn : ¬ n = (0 : Int32)) (Tb : own_T n (2 : Int32) p3 p2 (0 : Int32) (1 : Int32) m2 v2) (Tc : own_T n (3 : Int32) p4 m2 v2 (2 : Int32) m3 v3) (Td : own_T n (4 : Int32) p5 m3 v3 (3 : Int32) ma va) {p : Program} {e : Env} {s : State} {m : MethodId} {below : List Frame} {meth : Method} {c : Code} {args : Array Value} {s₁ : State} {lo : List Loc} (hx : p.tables.exec = Jvm.exec) (hby : c.code = code) (hml : c.maxLocals = maxLocals) (hown : s.vm.findClass "com/example/rosewood/rosewood/RosewoodMapFirstPinLaw" = some m.cls) (hnm : meth.name = "law") (hret : meth.sig.returnType = ret) (hlk : meth.locks = false) (hZ : Z.Warmed39 s.vm) (X0 : Stand p l e room_1 s m args below meth c s₁ lo 13 39) (e0 : s₁.heap = h0) (N0 : Fr n0 lo) :
    Go p e below (s₁.setTop (mkF m 98 #[vi p1, vi p2, vi p3, vi p4, vi p5, vi n, vr M, vu, vu, vu] [])) (FinE s room_1.cells room_1.slots (fun v h L => v = some (.int 1) ∧ Fr n0 L)) := by
  refine g_aload X0 hx (hb hby at_98) rfl rfl ?_
  refine g_V X0 hx hZ hown (lk4 hw) (rm_first_4 hw M r sz mc km vm ur cr h0 n0 Z0 O_M O_r) e0 O_M.1 (hb hby at_100) hml.symm rfl rfl (Nat.le_refl _) (by decide) (fun v1 T1 L1 X1 q1 => ?_)
  obtain ⟨rfl, M1, e1⟩ := q1
  have N1 := Fr.app N0 M1
  refine g_astore X1 hx #[vi p1, vi p2, vi p3, vi p4, vi p5, vi n, vr M, vr r, vu, vu] (hb hby at_103) rfl rfl ?_
  refine g_iload X1 hx (hb hby at_105) rfl ?_
  have c107_2 : ¬ (n = (0 : Int32)) := hn
  refine g_ifYes X1 hx 121 (hb hby at_107) ((if0 _ _).trans (feq c107_2).2) (by decide) (by decide) ?_
  refine g_aload X1 hx (hb hby at_121) rfl rfl ?_
  refine g_nonnullYes X1 hx 128 (hb hby at_123) (by decide) (by decide) ?_
  refine g_iloadN X1 hx (hb hby at_128) rfl ?_
  refine g_istore X1 hx #[vi p1, vi p2, vi p3, vi p4, vi p5, vi n, vr M, vr r, vi p2, vu] (hb hby at_129) rfl ?_
  refine g_iconst X1 hx (0 : Int32) (hb hby at_131) (by decide) ?_
  refine g_istore X1 hx #[vi p1, vi p2, vi p3, vi p4, vi p5, vi n, vr M, vr r, vi p2, vi 0] (hb hby at_132) rfl ?_
  exact seg_134 hw p1 p2 p3 p4 p5 n M r ur .null cr km vm ma va m2 v2 m3 v3 h0 n0 Z0 O_r O_km O_vm ne_r_km ne_r_vm g_r Tb Tc Td hx hby hml hown hnm hret hlk hZ (Stand.more X1 (by decide) (by decide)) e1 N1
theorem d24_9 : decode B4 9 = .ok (.aload_n 1, 1) := by decide +kernel
theorem d24_10 : decode B4 10 = .ok (.getfield 211, 3) := by decide +kernel
theorem d24_13 : decode B4 13 = .ok (.astore_n 1, 1) := by decide +kernel
theorem d24_14 : decode B4 14 = .ok (.goto (-12), 3) := by decide +kernel
theorem rm_leftmost_7 (hw : HW a0 Z) (a1 a2 : Addr) (a3 a4 : Addr) (u1 : Value) (i1 : Int32) (a5 a6 : Addr) (u2 : Value) (i2 : Int32) (h0 : Heap) (n0 : Nat) (Z0 : n0 ≤ h0.size) (O_a1 : R_ND Z h0 a1 (.ref a2) (.ref a3) (.ref a4) u1 .null (.int i1)) (O_a4 : R_ND Z h0 a4 (.ref a5) (.ref a6) .null u2 (.ref a1) (.int i2)) :
    Ctr l Y4 B4 2 (some F1_) [] (rmk 0 0 0 0) Z #[(.ref a1)] h0 (fun v h L => v = some (.ref a4) ∧ Fr n0 L ∧ h = h0) := by
  refine own_enter pn_2 (fun p e s m below meth c s₁ hx hby hml hown hnm hret hlk hZ X0 e0 => ?_)
  have N0 := Fr.nil n0
  have K0 := Keep.refl h0 []
  rw [ef_24_R m _]
  refine g_aloadN X0 hx (hb hby d24_0) rfl rfl ?_
  refine g_astoreN X0 hx #[vr a1, vr a1] (hb hby d24_1) rfl rfl ?_
  refine g_aloadN X0 hx (hb hby d24_2) rfl rfl ?_
  refine g_getF X0 hx hZ hown (Wd101 hw) e0 O_a1.2.2.2.1 (hb hby d24_3) (fun T1 X1 e1 => ?_)
  refine g_nullNo X1 hx (hb hby d24_6) ?_
  refine g_aloadN X1 hx (hb hby d24_9) rfl rfl ?_
  refine g_getF X1 hx hZ hown (Wd101 hw) e1 O_a1.2.2.2.1 (hb hby d24_10) (fun T2 X2 e2 => ?_)
  refine g_astoreN X2 hx #[vr a1, vr a4] (hb hby d24_13) rfl rfl ?_
  refine g_goto X2 hx 2 (hb hby d24_14) (by decide) (by decide) ?_
  refine g_aloadN X2 hx (hb hby d24_2) rfl rfl ?_
  refine g_getF X2 hx hZ hown (Wd101 hw) e2 O_a4.2.2.2.1 (hb hby d24_3) (fun T3 X3 e3 => ?_)
  refine g_nullYes X3 hx 17 (hb hby d24_6) (by decide) (by decide) ?_
  refine g_aloadN X3 hx (hb hby d24_17) rfl rfl ?_
  exact own_retA X3 hx hret hlk rfl rfl (hb hby d24_18) (by decide) (by decide) ⟨rfl, N0, e3⟩
theorem rm_first_6 (hw : HW a0 Z) (a1 a2 : Addr) (i1 i2 : Int32) (a3 a4 a5 : Addr) (u1 : Value) (i3 : Int32) (a6 a7 : Addr) (u2 : Value) (i4 : Int32) (h0 : Heap) (n0 : Nat) (Z0 : n0 ≤ h0.size) (O_a1 : R_MP Z h0 a1 .null (.ref a2) (.int i1) (.int i2)) (O_a2 : R_ND Z h0 a2 (.ref a3) (.ref a4) (.ref a5) u1 .null (.int i3)) (O_a5 : R_ND Z h0 a5 (.ref a6) (.ref a7) .null u2 (.ref a2) (.int i4)) :
    Ctr l Y5 B5 1 (some F1_) [] (rmk 1 0 0 13) Z #[(.ref a1)] h0 (fun v h L => v = some (.ref a5) ∧ Fr n0 L ∧ h = h0) := by
  refine own_enter pn_2 (fun p e s m below meth c s₁ hx hby hml hown hnm hret hlk hZ X0 e0 => ?_)
  have N0 := Fr.nil n0
  have K0 := Keep.refl h0 []
  rw [ef_5_R m _]
  refine g_aloadN X0 hx (hb hby d5_0) rfl rfl ?_
  refine g_getF X0 hx hZ hown (Wd25 hw) e0 O_a1.2.2.1 (hb hby d5_1) (fun T1 X1 e1 => ?_)
  refine g_nonnullYes X1 hx 11 (hb hby d5_4) (by decide) (by decide) ?_
  refine g_aloadN X1 hx (hb hby d5_11) rfl rfl ?_
  refine g_getF X1 hx hZ hown (Wd25 hw) e1 O_a1.2.2.1 (hb hby d5_12) (fun T2 X2 e2 => ?_)
  refine g_S X2 hx hZ hown (lk3 hw) (rm_leftmost_7 hw a2 a3 a4 a5 u1 i3 a6 a7 u2 i4 h0 n0 Z0 O_a2 O_a5) e2 (hb hby d5_15) hml.symm rfl rfl (Nat.le_refl _) (by decide) (fun v3 T3 L3 X3 q3 => ?_)
  obtain ⟨rfl, M3, e3⟩ := q3
  have N3 := Fr.app N0 M3
  exact own_retA X3 hx hret hlk rfl rfl (hb hby d5_18) (by decide) (by decide) ⟨rfl, N3, e3⟩
theorem seg_98_D2 (hw : HW a0 Z) (p1 p2 : Int32) (p3 p4 : Int32) (p5 n : Int32) (M : Addr) (mc sz : Int32) (r : Addr) (ur : Value) (cr : Int32) (kr wr t : Addr) (ut : Value) (ct : Int32) (km vm : Addr) (ma va : Int32) (m2 v2 : Int32) (m3 v3 : Int32) (h0 : Heap) (n0 : Nat) (Z0 : n0 ≤ h0.size) (O_M : R_MP Z h0 M .null (.ref r) (.int sz) (.int mc)) (O_r : R_ND Z h0 r (.ref kr) (.ref wr) (.ref t) ur .null (.int cr)) (O_t : R_ND Z h0 t (.ref km) (.ref vm) .null ut (.ref r) (.int ct)) (O_km : R_IN Z h0 km (.int ma)) (O_vm : R_IN Z h0 vm (.int va)) (ne_M_r : M ≠ r) (ne_M_t : M ≠ t) (ne_M_km : M ≠ km) (ne_M_vm : M ≠ vm) (ne_r_t : r ≠ t) (ne_r_km : r ≠ km) (ne_r_vm : r ≠ vm) (ne_t_km : t ≠ km) (ne_t_vm : t ≠ vm) (g_M : n0 ≤ M) (g_r : n0 ≤ r) (g_t : n0 ≤ t) (hn : ¬ n = (0 : Int32)) (Tb : own_T n (2 : Int32) p3 p2 (0 : Int32) (1 : Int32) m2 v2) (Tc : own_T n (3 : Int32) p4 m2 v2 (2 : Int32) m3 v3) (Td : own_T n (4 : Int32) p5 m3 v3 (3 : Int32) ma va) {p : Program} {e : Env} {s : State} {m : MethodId} {below : List Frame} {meth : Method} {c : Code} {args : Array Value} {s₁ : State} {lo : List Loc} (hx : p.tables.exec = Jvm.exec) (hby : c.code = code) (hml : c.maxLocals = maxLocals) (hown : s.vm.findClass "com/example/rosewood/rosewood/RosewoodMapFirstPinLaw" = some m.cls) (hnm : meth.name = "law") (hret : meth.sig.returnType = ret) (hlk : meth.locks = false) (hZ : Z.Warmed39 s.vm) (X0 : Stand p l e room_1 s m args below meth c s₁ lo 13 39) (e0 : s₁.heap = h0) (N0 : Fr n0 lo) :
    Go p e below (s₁.setTop (mkF m 98 #[vi p1, vi p2, vi p3, vi p4, vi p5, vi n, vr M, vu, vu, vu] [])) (FinE s room_1.cells room_1.slots (fun v h L => v = some (.int 1) ∧ Fr n0 L)) := by
  refine g_aload X0 hx (hb hby at_98) rfl rfl ?_
  refine g_V X0 hx hZ hown (lk4 hw) (rm_first_6 hw M r sz mc kr wr t ur cr km vm ut ct h0 n0 Z0 O_M O_r O_t) e0 O_M.1 (hb hby at_100) hml.symm rfl rfl (Nat.le_refl _) (by decide) (fun v1 T1 L1 X1 q1 => ?_)
  obtain ⟨rfl, M1, e1⟩ := q1
  have N1 := Fr.app N0 M1
  refine g_astore X1 hx #[vi p1, vi p2, vi p3, vi p4, vi p5, vi n, vr M, vr t, vu, vu] (hb hby at_103) rfl rfl ?_
  refine g_iload X1 hx (hb hby at_105) rfl ?_
  have c107_2 : ¬ (n = (0 : Int32)) := hn
  refine g_ifYes X1 hx 121 (hb hby at_107) ((if0 _ _).trans (feq c107_2).2) (by decide) (by decide) ?_
  refine g_aload X1 hx (hb hby at_121) rfl rfl ?_
  refine g_nonnullYes X1 hx 128 (hb hby at_123) (by decide) (by decide) ?_
  refine g_iloadN X1 hx (hb hby at_128) rfl ?_
  refine g_istore X1 hx #[vi p1, vi p2, vi p3, vi p4, vi p5, vi n, vr M, vr t, vi p2, vu] (hb hby at_129) rfl ?_
  refine g_iconst X1 hx (0 : Int32) (hb hby at_131) (by decide) ?_
  refine g_istore X1 hx #[vi p1, vi p2, vi p3, vi p4, vi p5, vi n, vr M, vr t, vi p2, vi 0] (hb hby at_132) rfl ?_
  exact seg_134 hw p1 p2 p3 p4 p5 n M t ut (.ref r) ct km vm ma va m2 v2 m3 v3 h0 n0 Z0 O_t O_km O_vm ne_t_km ne_t_vm g_t Tb Tc Td hx hby hml hown hnm hret hlk hZ (Stand.more X1 (by decide) (by decide)) e1 N1
theorem rm_leftmost_9 (hw : HW a0 Z) (a1 a2 : Addr) (a3 a4 : Addr) (u1 : Value) (i1 : Int32) (a5 a6 a7 : Addr) (u2 : Value) (i2 : Int32) (a8 a9 : Addr) (u3 : Value) (i3 : Int32) (h0 : Heap) (n0 : Nat) (Z0 : n0 ≤ h0.size) (O_a1 : R_ND Z h0 a1 (.ref a2) (.ref a3) (.ref a4) u1 .null (.int i1)) (O_a4 : R_ND Z h0 a4 (.ref a5) (.ref a6) (.ref a7) u2 (.ref a1) (.int i2)) (O_a7 : R_ND Z h0 a7 (.ref a8) (.ref a9) .null u3 (.ref a4) (.int i3)) :
    Ctr l Y4 B4 2 (some F1_) [] (rmk 0 0 0 0) Z #[(.ref a1)] h0 (fun v h L => v = some (.ref a7) ∧ Fr n0 L ∧ h = h0) := by
  refine own_enter pn_2 (fun p e s m below meth c s₁ hx hby hml hown hnm hret hlk hZ X0 e0 => ?_)
  have D {q : Nat} {r} (z : decode B4 q = r) : decode c.code q = r := hb hby z
  have N0 := Fr.nil n0
  have K0 := Keep.refl h0 []
  rw [ef_24_R m _]
  refine g_aloadN X0 hx (D d24_0) rfl rfl ?_
  refine g_astoreN X0 hx #[vr a1, vr a1] (D d24_1) rfl rfl ?_
  refine g_aloadN X0 hx (D d24_2) rfl rfl ?_
  refine g_getF X0 hx hZ hown (Wd101 hw) e0 O_a1.2.2.2.1 (D d24_3) (fun T1 X1 e1 => ?_)
  refine g_nullNo X1 hx (D d24_6) ?_
  refine g_aloadN X1 hx (D d24_9) rfl rfl ?_
  refine g_getF X1 hx hZ hown (Wd101 hw) e1 O_a1.2.2.2.1 (D d24_10) (fun T2 X2 e2 => ?_)
  refine g_astoreN X2 hx #[vr a1, vr a4] (D d24_13) rfl rfl ?_
  refine g_goto X2 hx 2 (D d24_14) (by decide) (by decide) ?_
  refine g_aloadN X2 hx (D d24_2) rfl rfl ?_
  refine g_getF X2 hx hZ hown (Wd101 hw) e2 O_a4.2.2.2.1 (D d24_3) (fun T3 X3 e3 => ?_)
  refine g_nullNo X3 hx (D d24_6) ?_
  refine g_aloadN X3 hx (D d24_9) rfl rfl ?_
  refine g_getF X3 hx hZ hown (Wd101 hw) e3 O_a4.2.2.2.1 (D d24_10) (fun T4 X4 e4 => ?_)
  refine g_astoreN X4 hx #[vr a1, vr a7] (D d24_13) rfl rfl ?_
  refine g_goto X4 hx 2 (D d24_14) (by decide) (by decide) ?_
  refine g_aloadN X4 hx (D d24_2) rfl rfl ?_
  refine g_getF X4 hx hZ hown (Wd101 hw) e4 O_a7.2.2.2.1 (D d24_3) (fun T5 X5 e5 => ?_)
  refine g_nullYes X5 hx 17 (D d24_6) (by decide) (by decide) ?_
  refine g_aloadN X5 hx (D d24_17) rfl rfl ?_
  exact own_retA X5 hx hret hlk rfl rfl (D d24_18) (by decide) (by decide) ⟨rfl, N0, e5⟩
theorem rm_first_8 (hw : HW a0 Z) (a1 a2 : Addr) (i1 i2 : Int32) (a3 a4 a5 : Addr) (u1 : Value) (i3 : Int32) (a6 a7 a8 : Addr) (u2 : Value) (i4 : Int32) (a9 a10 : Addr) (u3 : Value) (i5 : Int32) (h0 : Heap) (n0 : Nat) (Z0 : n0 ≤ h0.size) (O_a1 : R_MP Z h0 a1 .null (.ref a2) (.int i1) (.int i2)) (O_a2 : R_ND Z h0 a2 (.ref a3) (.ref a4) (.ref a5) u1 .null (.int i3)) (O_a5 : R_ND Z h0 a5 (.ref a6) (.ref a7) (.ref a8) u2 (.ref a2) (.int i4)) (O_a8 : R_ND Z h0 a8 (.ref a9) (.ref a10) .null u3 (.ref a5) (.int i5)) :
    Ctr l Y5 B5 1 (some F1_) [] (rmk 1 0 0 13) Z #[(.ref a1)] h0 (fun v h L => v = some (.ref a8) ∧ Fr n0 L ∧ h = h0) := by
  refine own_enter pn_2 (fun p e s m below meth c s₁ hx hby hml hown hnm hret hlk hZ X0 e0 => ?_)
  have N0 := Fr.nil n0
  have K0 := Keep.refl h0 []
  rw [ef_5_R m _]
  refine g_aloadN X0 hx (hb hby d5_0) rfl rfl ?_
  refine g_getF X0 hx hZ hown (Wd25 hw) e0 O_a1.2.2.1 (hb hby d5_1) (fun T1 X1 e1 => ?_)
  refine g_nonnullYes X1 hx 11 (hb hby d5_4) (by decide) (by decide) ?_
  refine g_aloadN X1 hx (hb hby d5_11) rfl rfl ?_
  refine g_getF X1 hx hZ hown (Wd25 hw) e1 O_a1.2.2.1 (hb hby d5_12) (fun T2 X2 e2 => ?_)
  refine g_S X2 hx hZ hown (lk3 hw) (rm_leftmost_9 hw a2 a3 a4 a5 u1 i3 a6 a7 a8 u2 i4 a9 a10 u3 i5 h0 n0 Z0 O_a2 O_a5 O_a8) e2 (hb hby d5_15) hml.symm rfl rfl (Nat.le_refl _) (by decide) (fun v3 T3 L3 X3 q3 => ?_)
  obtain ⟨rfl, M3, e3⟩ := q3
  have N3 := Fr.app N0 M3
  exact own_retA X3 hx hret hlk rfl rfl (hb hby d5_18) (by decide) (by decide) ⟨rfl, N3, e3⟩
theorem seg_98_D3 (hw : HW a0 Z) (p1 p2 : Int32) (p3 p4 : Int32) (p5 n : Int32) (M : Addr) (mc sz : Int32) (r : Addr) (ur : Value) (cr : Int32) (kr wr t : Addr) (ut : Value) (ct : Int32) (kt wt q : Addr) (uq : Value) (cq : Int32) (km vm : Addr) (ma va : Int32) (m2 v2 : Int32) (m3 v3 : Int32) (h0 : Heap) (n0 : Nat) (Z0 : n0 ≤ h0.size) (O_M : R_MP Z h0 M .null (.ref r) (.int sz) (.int mc)) (O_r : R_ND Z h0 r (.ref kr) (.ref wr) (.ref t) ur .null (.int cr)) (O_t : R_ND Z h0 t (.ref kt) (.ref wt) (.ref q) ut (.ref r) (.int ct)) (O_q : R_ND Z h0 q (.ref km) (.ref vm) .null uq (.ref t) (.int cq)) (O_km : R_IN Z h0 km (.int ma)) (O_vm : R_IN Z h0 vm (.int va)) (ne_M_r : M ≠ r) (ne_M_t : M ≠ t) (ne_M_q : M ≠ q) (ne_M_km : M ≠ km) (ne_M_vm : M ≠ vm) (ne_r_t : r ≠ t) (ne_r_q : r ≠ q) (ne_r_km : r ≠ km) (ne_r_vm : r ≠ vm) (ne_t_q : t ≠ q) (ne_t_km : t ≠ km) (ne_t_vm : t ≠ vm) (ne_q_km : q ≠ km) (ne_q_vm : q ≠ vm) (g_M : n0 ≤ M) (g_r : n0 ≤ r) (g_t : n0 ≤ t) (g_q : n0 ≤ q) (hn : ¬ n = (0 : Int32)) (Tb : own_T n (2 : Int32) p3 p2 (0 : Int32) (1 : Int32) m2 v2) (Tc : own_T n (3 : Int32) p4 m2 v2 (2 : Int32) m3 v3) (Td : own_T n (4 : Int32) p5 m3 v3 (3 : Int32) ma va) {p : Program} {e : Env} {s : State} {m : MethodId} {below : List Frame} {meth : Method} {c : Code} {args : Array Value} {s₁ : State} {lo : List Loc} (hx : p.tables.exec = Jvm.exec) (hby : c.code = code) (hml : c.maxLocals = maxLocals) (hown : s.vm.findClass "com/example/rosewood/rosewood/RosewoodMapFirstPinLaw" = some m.cls) (hnm : meth.name = "law") (hret : meth.sig.returnType = ret) (hlk : meth.locks = false) (hZ : Z.Warmed39 s.vm) (X0 : Stand p l e room_1 s m args below meth c s₁ lo 13 39) (e0 : s₁.heap = h0) (N0 : Fr n0 lo) :
    Go p e below (s₁.setTop (mkF m 98 #[vi p1, vi p2, vi p3, vi p4, vi p5, vi n, vr M, vu, vu, vu] [])) (FinE s room_1.cells room_1.slots (fun v h L => v = some (.int 1) ∧ Fr n0 L)) := by
  refine g_aload X0 hx (hb hby at_98) rfl rfl ?_
  refine g_V X0 hx hZ hown (lk4 hw) (rm_first_8 hw M r sz mc kr wr t ur cr kt wt q ut ct km vm uq cq h0 n0 Z0 O_M O_r O_t O_q) e0 O_M.1 (hb hby at_100) hml.symm rfl rfl (Nat.le_refl _) (by decide) (fun v1 T1 L1 X1 q1 => ?_)
  obtain ⟨rfl, M1, e1⟩ := q1
  have N1 := Fr.app N0 M1
  refine g_astore X1 hx #[vi p1, vi p2, vi p3, vi p4, vi p5, vi n, vr M, vr q, vu, vu] (hb hby at_103) rfl rfl ?_
  refine g_iload X1 hx (hb hby at_105) rfl ?_
  have c107_2 : ¬ (n = (0 : Int32)) := hn
  refine g_ifYes X1 hx 121 (hb hby at_107) ((if0 _ _).trans (feq c107_2).2) (by decide) (by decide) ?_
  refine g_aload X1 hx (hb hby at_121) rfl rfl ?_
  refine g_nonnullYes X1 hx 128 (hb hby at_123) (by decide) (by decide) ?_
  refine g_iloadN X1 hx (hb hby at_128) rfl ?_
  refine g_istore X1 hx #[vi p1, vi p2, vi p3, vi p4, vi p5, vi n, vr M, vr q, vi p2, vu] (hb hby at_129) rfl ?_
  refine g_iconst X1 hx (0 : Int32) (hb hby at_131) (by decide) ?_
  refine g_istore X1 hx #[vi p1, vi p2, vi p3, vi p4, vi p5, vi n, vr M, vr q, vi p2, vi 0] (hb hby at_132) rfl ?_
  exact seg_134 hw p1 p2 p3 p4 p5 n M q uq (.ref t) cq km vm ma va m2 v2 m3 v3 h0 n0 Z0 O_q O_km O_vm ne_q_km ne_q_vm g_q Tb Tc Td hx hby hml hown hnm hret hlk hZ (Stand.more X1 (by decide) (by decide)) e1 N1
theorem pd_5 : parseMethodDescriptor "(I)Ljava/lang/Integer;" = some ⟨[FieldType.int], some F4_⟩ := by decide +kernel
theorem lk5 {Z : State} {a0 : Array Value} (hw : HW a0 Z) : LkS "com/example/rosewood/rosewood/RosewoodMapFirstPinLaw" 11 Y2 B2 1 (some F4_) [FieldType.int] (some F4_) a0 Z := ⟨(hw _ (List.mem_of_getElem? (i := 27) rfl)), (hw _ (List.mem_of_getElem? (i := 28) rfl)), (Wd29 hw), (hw _ (List.mem_of_getElem? (i := 30) rfl)), by decide, pd_5⟩
theorem ef_15_n (m : MethodId)  : entryFrame m #[.null] 1 = mkF m 0 #[vn] [] := by first | (simp [entryFrame, mkF, argsToLocals, Value.category]; done) | rfl
theorem d15_0 : decode B6 0 = .ok (.aload_n 0, 1) := by decide +kernel
theorem d15_1 : decode B6 1 = .ok (.ifnonnull 7, 3) := by decide +kernel
theorem d15_4 : decode B6 4 = .ok (.aconst_null, 1) := by decide +kernel
theorem d15_5 : decode B6 5 = .ok (.goto 7, 3) := by decide +kernel
theorem d15_12 : decode B6 12 = .ok (.areturn, 1) := by decide +kernel
theorem rm_keyOf_12 (hw : HW a0 Z)  (h0 : Heap) (n0 : Nat) (Z0 : n0 ≤ h0.size)  :
    Ctr l Y6 B6 1 (some F3_) [] (rmk 0 0 0 0) Z #[.null] h0 (fun v h L => v = some .null ∧ Fr n0 L ∧ h = h0) := by
  refine own_enter pn_2 (fun p e s m below meth c s₁ hx hby hml hown hnm hret hlk hZ X0 e0 => ?_)
  have N0 := Fr.nil n0
  have K0 := Keep.refl h0 []
  rw [ef_15_n m ]
  refine g_aloadN X0 hx (hb hby d15_0) rfl rfl ?_
  refine g_nonnullNo X0 hx (hb hby d15_1) ?_
  refine g_null X0 hx (hb hby d15_4) ?_
  refine g_goto X0 hx 12 (hb hby d15_5) (by decide) (by decide) ?_
  exact own_retA X0 hx hret hlk rfl rfl (hb hby d15_12) (by decide) (by decide) ⟨rfl, N0, e0⟩
theorem pd_6 : parseMethodDescriptor "(Lcom/example/rosewood/rosewood/RosewoodMap$Node;)Ljava/lang/Object;" = some ⟨[F1_], some F3_⟩ := by decide +kernel
theorem lk6 {Z : State} {a0 : Array Value} (hw : HW a0 Z) : LkS "com/example/rosewood/rosewood/RosewoodMap" 121 Y6 B6 1 (some F3_) [F1_] (some F3_) a0 Z := ⟨(hw _ (List.mem_of_getElem? (i := 105) rfl)), (hw _ (List.mem_of_getElem? (i := 106) rfl)), (Wd3 hw), (hw _ (List.mem_of_getElem? (i := 107) rfl)), by decide, pd_6⟩
theorem ef_11_II (m : MethodId) (x0 x1 : Int32) : entryFrame m #[(.int x0), (.int x1)] 2 = mkF m 0 #[vi x0, vi x1] [] := by first | (simp [entryFrame, mkF, argsToLocals, Value.category]; done) | rfl
theorem d11_0 : decode B7 0 = .ok (.iload_n 0, 1) := by decide +kernel
theorem d11_1 : decode B7 1 = .ok (.iload_n 1, 1) := by decide +kernel
theorem d11_2 : decode B7 2 = .ok (.if_icmp .ge 7, 3) := by decide +kernel
theorem d11_5 : decode B7 5 = .ok (.iconst (-1), 1) := by decide +kernel
theorem d11_6 : decode B7 6 = .ok (.goto 13, 3) := by decide +kernel
theorem d11_19 : decode B7 19 = .ok (.ireturn, 1) := by decide +kernel
theorem rm_compare_16 (hw : HW a0 Z) (i1 i2 : Int32) (h0 : Heap) (n0 : Nat) (Z0 : n0 ≤ h0.size) (hk0 : i1 < i2) :
    Ctr l Y7 B7 2 (some FieldType.int) [] (rmk 0 0 0 0) Z #[(.int i1), (.int i2)] h0 (fun v h L => v = some (.int (-1)) ∧ Fr n0 L ∧ h = h0) := by
  refine own_enter pn_1 (fun p e s m below meth c s₁ hx hby hml hown hnm hret hlk hZ X0 e0 => ?_)
  have N0 := Fr.nil n0
  have K0 := Keep.refl h0 []
  rw [ef_11_II m _ _]
  refine g_iloadN X0 hx (hb hby d11_0) rfl ?_
  refine g_iloadN X0 hx (hb hby d11_1) rfl ?_
  have c2_1 : i1 < i2 := hk0
  refine g_icmpNo X0 hx (hb hby d11_2) (tlt c2_1).2.1 ?_
  refine g_iconst X0 hx (-1 : Int32) (hb hby d11_5) (by decide) ?_
  refine g_goto X0 hx 19 (hb hby d11_6) (by decide) (by decide) ?_
  exact own_retI X0 hx hret hlk (hb hby d11_19) (by decide) (by decide) ⟨rfl, N0, e0⟩
theorem pd_7 : parseMethodDescriptor "(II)I" = some ⟨[FieldType.int, FieldType.int], some FieldType.int⟩ := by decide +kernel
theorem lk7 {Z : State} {a0 : Array Value} (hw : HW a0 Z) : LkS "java/lang/Integer" 259 Y7 B7 2 (some FieldType.int) [FieldType.int, FieldType.int] (some FieldType.int) a0 Z := ⟨(hw _ (List.mem_of_getElem? (i := 67) rfl)), (hw _ (List.mem_of_getElem? (i := 68) rfl)), (Wd29 hw), (hw _ (List.mem_of_getElem? (i := 69) rfl)), by decide, pd_7⟩
theorem ef_10_RR (m : MethodId) (x0 x1 : Addr) : entryFrame m #[(.ref x0), (.ref x1)] 2 = mkF m 0 #[vr x0, vr x1] [] := by first | (simp [entryFrame, mkF, argsToLocals, Value.category]; done) | rfl
theorem d10_0 : decode B8 0 = .ok (.aload_n 0, 1) := by decide +kernel
theorem d10_1 : decode B8 1 = .ok (.getfield 205, 3) := by decide +kernel
theorem d10_4 : decode B8 4 = .ok (.aload_n 1, 1) := by decide +kernel
theorem d10_5 : decode B8 5 = .ok (.getfield 205, 3) := by decide +kernel
theorem d10_8 : decode B8 8 = .ok (.invokestatic 259, 3) := by decide +kernel
theorem d10_11 : decode B8 11 = .ok (.ireturn, 1) := by decide +kernel
theorem rm_compareTo_15 (hw : HW a0 Z) (a1 a2 : Addr) (i1 i2 : Int32) (h0 : Heap) (n0 : Nat) (Z0 : n0 ≤ h0.size) (O_a1 : R_IN Z h0 a1 (.int i1)) (O_a2 : R_IN Z h0 a2 (.int i2)) (hk0 : i1 < i2) :
    Ctr l Y8 B8 2 (some FieldType.int) [] (rmk 1 0 0 13) Z #[(.ref a1), (.ref a2)] h0 (fun v h L => v = some (.int (-1)) ∧ Fr n0 L ∧ h = h0) := by
  refine own_enter pn_1 (fun p e s m below meth c s₁ hx hby hml hown hnm hret hlk hZ X0 e0 => ?_)
  have N0 := Fr.nil n0
  have K0 := Keep.refl h0 []
  rw [ef_10_RR m _ _]
  refine g_aloadN X0 hx (hb hby d10_0) rfl rfl ?_
  refine g_getF X0 hx hZ hown (Wd65 hw) e0 O_a1.2 (hb hby d10_1) (fun T1 X1 e1 => ?_)
  refine g_aloadN X1 hx (hb hby d10_4) rfl rfl ?_
  refine g_getF X1 hx hZ hown (Wd65 hw) e1 O_a2.2 (hb hby d10_5) (fun T2 X2 e2 => ?_)
  refine g_S X2 hx hZ hown (lk7 hw) (rm_compare_16 hw i1 i2 h0 n0 Z0 hk0) e2 (hb hby d10_8) hml.symm rfl rfl (Nat.le_refl _) (by decide) (fun v3 T3 L3 X3 q3 => ?_)
  obtain ⟨rfl, M3, e3⟩ := q3
  have N3 := Fr.app N0 M3
  exact own_retI X3 hx hret hlk (hb hby d10_11) (by decide) (by decide) ⟨rfl, N3, e3⟩
theorem pd_8 : parseMethodDescriptor "(Ljava/lang/Integer;)I" = some ⟨[F4_], some FieldType.int⟩ := by decide +kernel
theorem lk8 {Z : State} {a0 : Array Value} (hw : HW a0 Z) : LkV "java/lang/Integer" 284 Y8 "java/lang/Integer" B8 2 (some FieldType.int) [F4_] (some FieldType.int) a0 Z := ⟨(hw _ (List.mem_of_getElem? (i := 60) rfl)), (hw _ (List.mem_of_getElem? (i := 61) rfl)), (hw _ (List.mem_of_getElem? (i := 63) rfl)), (hw _ (List.mem_of_getElem? (i := 62) rfl)), (hw _ (List.mem_of_getElem? (i := 64) rfl)), (Wd29 hw), by decide, pd_8⟩
theorem ef_9_RR (m : MethodId) (x0 x1 : Addr) : entryFrame m #[(.ref x0), (.ref x1)] 2 = mkF m 0 #[vr x0, vr x1] [] := by first | (simp [entryFrame, mkF, argsToLocals, Value.category]; done) | rfl
theorem d9_0 : decode B9 0 = .ok (.aload_n 0, 1) := by decide +kernel
theorem d9_1 : decode B9 1 = .ok (.aload_n 1, 1) := by decide +kernel
theorem d9_2 : decode B9 2 = .ok (.checkcast 1, 3) := by decide +kernel
theorem d9_5 : decode B9 5 = .ok (.invokevirtual 284, 3) := by decide +kernel
theorem d9_8 : decode B9 8 = .ok (.ireturn, 1) := by decide +kernel
theorem rm_compareTo_14 (hw : HW a0 Z) (a1 a2 : Addr) (i1 i2 : Int32) (h0 : Heap) (n0 : Nat) (Z0 : n0 ≤ h0.size) (O_a1 : R_IN Z h0 a1 (.int i1)) (O_a2 : R_IN Z h0 a2 (.int i2)) (hk0 : i1 < i2) :
    Ctr l Y9 B9 2 (some FieldType.int) [] (rmk 2 0 0 26) Z #[(.ref a1), (.ref a2)] h0 (fun v h L => v = some (.int (-1)) ∧ Fr n0 L ∧ h = h0) := by
  refine own_enter pn_1 (fun p e s m below meth c s₁ hx hby hml hown hnm hret hlk hZ X0 e0 => ?_)
  have N0 := Fr.nil n0
  have K0 := Keep.refl h0 []
  rw [ef_9_RR m _ _]
  refine g_aloadN X0 hx (hb hby d9_0) rfl rfl ?_
  refine g_aloadN X0 hx (hb hby d9_1) rfl rfl ?_
  refine g_cast X0 hx hZ hown (Wd58 hw) e0 (Ins.self O_a2.1) (hb hby d9_2) (fun T1 X1 e1 => ?_)
  refine g_V X1 hx hZ hown (lk8 hw) (rm_compareTo_15 hw a1 a2 i1 i2 h0 n0 Z0 O_a1 O_a2 hk0) e1 O_a1.1 (hb hby d9_5) hml.symm rfl rfl (Nat.le_refl _) (by decide) (fun v2 T2 L2 X2 q2 => ?_)
  obtain ⟨rfl, M2, e2⟩ := q2
  have N2 := Fr.app N0 M2
  exact own_retI X2 hx hret hlk (hb hby d9_8) (by decide) (by decide) ⟨rfl, N2, e2⟩
theorem pd_9 : parseMethodDescriptor "(Ljava/lang/Object;)I" = some ⟨[F3_], some FieldType.int⟩ := by decide +kernel
theorem lk9 {Z : State} {a0 : Array Value} (hw : HW a0 Z) : LkF "com/example/rosewood/rosewood/RosewoodMap" 265 Y10 Y9 "java/lang/Integer" B9 2 (some FieldType.int) [F3_] (some FieldType.int) a0 Z := ⟨(hw _ (List.mem_of_getElem? (i := 50) rfl)), (hw _ (List.mem_of_getElem? (i := 51) rfl)), (hw _ (List.mem_of_getElem? (i := 53) rfl)), (hw _ (List.mem_of_getElem? (i := 54) rfl)), (hw _ (List.mem_of_getElem? (i := 55) rfl)), (hw _ (List.mem_of_getElem? (i := 56) rfl)), (Wd49 hw), (hw _ (List.mem_of_getElem? (i := 57) rfl)), (Wd29 hw), by decide, pd_9⟩
theorem ef_8_RRR (m : MethodId) (x0 x1 x2 : Addr) : entryFrame m #[(.ref x0), (.ref x1), (.ref x2)] 3 = mkF m 0 #[vr x0, vr x1, vr x2] [] := by first | (simp [entryFrame, mkF, argsToLocals, Value.category]; done) | rfl
theorem d8_0 : decode B10 0 = .ok (.aload_n 0, 1) := by decide +kernel
theorem d8_1 : decode B10 1 = .ok (.getfield 14, 3) := by decide +kernel
theorem d8_4 : decode B10 4 = .ok (.ifnonnull 16, 3) := by decide +kernel
theorem d8_7 : decode B10 7 = .ok (.aload_n 1, 1) := by decide +kernel
theorem d8_8 : decode B10 8 = .ok (.checkcast 263, 3) := by decide +kernel
theorem d8_11 : decode B10 11 = .ok (.aload_n 2, 1) := by decide +kernel
theorem d8_12 : decode B10 12 = .ok (.invokeinterface 265 2, 5) := by decide +kernel
theorem d8_17 : decode B10 17 = .ok (.goto 14, 3) := by decide +kernel
theorem d8_31 : decode B10 31 = .ok (.ireturn, 1) := by decide +kernel
theorem rm_compare_13 (hw : HW a0 Z) (a1 a2 : Addr) (a3 a4 : Addr) (i1 i2 i3 : Int32) (h0 : Heap) (n0 : Nat) (Z0 : n0 ≤ h0.size) (O_a1 : R_MP Z h0 a1 .null (.ref a4) (.int 1) (.int i1)) (O_a2 : R_IN Z h0 a2 (.int i2)) (O_a3 : R_IN Z h0 a3 (.int i3)) (hk0 : i2 < i3) :
    Ctr l Y11 B10 3 (some FieldType.int) [] (rmk 3 0 0 39) Z #[(.ref a1), (.ref a2), (.ref a3)] h0 (fun v h L => v = some (.int (-1)) ∧ Fr n0 L ∧ h = h0) := by
  refine own_enter pn_2 (fun p e s m below meth c s₁ hx hby hml hown hnm hret hlk hZ X0 e0 => ?_)
  have N0 := Fr.nil n0
  have K0 := Keep.refl h0 []
  rw [ef_8_RRR m _ _ _]
  refine g_aloadN X0 hx (hb hby d8_0) rfl rfl ?_
  refine g_getF X0 hx hZ hown (Wd18 hw) e0 O_a1.2.1 (hb hby d8_1) (fun T1 X1 e1 => ?_)
  refine g_nonnullNo X1 hx (hb hby d8_4) ?_
  refine g_aloadN X1 hx (hb hby d8_7) rfl rfl ?_
  refine g_cast X1 hx hZ hown (Wd48 hw) e1 (Ins.of_exa O_a2.1 (Wd49 hw)) (hb hby d8_8) (fun T2 X2 e2 => ?_)
  refine g_aloadN X2 hx (hb hby d8_11) rfl rfl ?_
  refine g_F X2 hx hZ hown (lk9 hw) (mvT hZ (Wd52 hw)) (rm_compareTo_14 hw a2 a3 i2 i3 h0 n0 Z0 O_a2 O_a3 hk0) e2 O_a2.1 (hb hby d8_12) hml.symm rfl rfl (Nat.le_refl _) (by decide) (fun v3 T3 L3 X3 q3 => ?_)
  obtain ⟨rfl, M3, e3⟩ := q3
  have N3 := Fr.app N0 M3
  refine g_goto X3 hx 31 (hb hby d8_17) (by decide) (by decide) ?_
  exact own_retI X3 hx hret hlk (hb hby d8_31) (by decide) (by decide) ⟨rfl, N3, e3⟩
theorem pd_10 : parseMethodDescriptor "(Ljava/lang/Object;Ljava/lang/Object;)I" = some ⟨[F3_, F3_], some FieldType.int⟩ := by decide +kernel
theorem lk10 {Z : State} {a0 : Array Value} (hw : HW a0 Z) : LkV "com/example/rosewood/rosewood/RosewoodMap" 217 Y11 "com/example/rosewood/rosewood/RosewoodMap" B10 3 (some FieldType.int) [F3_, F3_] (some FieldType.int) a0 Z := ⟨(hw _ (List.mem_of_getElem? (i := 43) rfl)), (hw _ (List.mem_of_getElem? (i := 44) rfl)), (hw _ (List.mem_of_getElem? (i := 46) rfl)), (hw _ (List.mem_of_getElem? (i := 45) rfl)), (hw _ (List.mem_of_getElem? (i := 47) rfl)), (Wd3 hw), by decide, pd_10⟩
theorem ef_22_RI (m : MethodId) (x0 : Addr) (x1 : Int32) : entryFrame m #[(.ref x0), (.int x1)] 2 = mkF m 0 #[vr x0, vi x1] [] := by first | (simp [entryFrame, mkF, argsToLocals, Value.category]; done) | rfl
theorem d22_0 : decode B11 0 = .ok (.aload_n 0, 1) := by decide +kernel
theorem d22_1 : decode B11 1 = .ok (.dup, 1) := by decide +kernel
theorem d22_2 : decode B11 2 = .ok (.getfield 285, 3) := by decide +kernel
theorem d22_5 : decode B11 5 = .ok (.iload_n 1, 1) := by decide +kernel
theorem d22_6 : decode B11 6 = .ok (.iadd, 1) := by decide +kernel
theorem d22_7 : decode B11 7 = .ok (.putfield 285, 3) := by decide +kernel
theorem d22_10 : decode B11 10 = .ok (.return_, 1) := by decide +kernel
theorem rm_addToLeftCount_17 (hw : HW a0 Z) (a1 a2 a3 : Addr) (h0 : Heap) (n0 : Nat) (Z0 : n0 ≤ h0.size) (O_a1 : R_ND Z h0 a1 (.ref a2) (.ref a3) .null .null .null (.int 0)) (g_a1 : n0 ≤ a1) :
    Ctr l Y12 B11 2 none [] (rmk 0 0 0 0) Z #[(.ref a1), (.int 1)] h0 (fun v h L => v = none ∧ Fr n0 L ∧ Keep h0 h [a1] ∧ R_ND Z h a1 (.ref a2) (.ref a3) .null .null .null (.int 1)) := by
  refine own_enter pn_2 (fun p e s m below meth c s₁ hx hby hml hown hnm hret hlk hZ X0 e0 => ?_)
  have N0 := Fr.nil n0
  have K0 := Keep.refl h0 [a1]
  rw [ef_22_RI m _ _]
  refine g_aloadN X0 hx (hb hby d22_0) rfl rfl ?_
  refine g_dup X0 hx (hb hby d22_1) rfl ?_
  refine g_getF X0 hx hZ hown (Wd94 hw) e0 O_a1.2.2.2.2.2.2 (hb hby d22_2) (fun T1 X1 e1 => ?_)
  refine g_iloadN X1 hx (hb hby d22_5) rfl ?_
  refine g_iadd X1 hx (hb hby d22_6) ?_
  show Go p e below (T1.setTop (mkF m 7 #[vr a1, vi 1] [(.int ((0 : Int32) + (1 : Int32))), (.ref a1)])) _
  rw [show ((0 : Int32) + (1 : Int32)) = (1 : Int32) from by decide]
  refine g_putF X1 hx hZ hown (Wd94 hw) e1 O_a1.2.2.2.2.2.2 O_a1.1 (Or.inl (Wd84 hw)) (Wd76 hw) fd_0 rfl rfl (hb hby d22_7) (fun T2 h2 X2 e2 W2 => ?_)
  have N2 := Fr.snoc X2 N0 g_a1
  have O_a1_2 := R_ND_set_redAndLeftCount hw W2 O_a1
  have K2 := Keep.wr K0 W2 (mw 0 rfl)
  exact own_retV X2 hx hret hlk (hb hby d22_10) (by decide) (by decide) (by rw [e2]; exact ⟨rfl, N2, K2, O_a1_2⟩)
theorem pd_11 : parseMethodDescriptor "(Lcom/example/rosewood/rosewood/RosewoodMap$Node;I)V" = some ⟨[F1_, FieldType.int], none⟩ := by decide +kernel
theorem lk11 {Z : State} {a0 : Array Value} (hw : HW a0 Z) : LkS "com/example/rosewood/rosewood/RosewoodMap" 221 Y12 B11 2 none [F1_, FieldType.int] none a0 Z := ⟨(hw _ (List.mem_of_getElem? (i := 133) rfl)), (hw _ (List.mem_of_getElem? (i := 134) rfl)), (Wd3 hw), (hw _ (List.mem_of_getElem? (i := 135) rfl)), by decide, pd_11⟩
theorem fd_1 : parseFieldDescriptor "Ljava/lang/Object;" = some F3_ := by decide
theorem fd_2 : parseFieldDescriptor "Lcom/example/rosewood/rosewood/RosewoodMap$Node;" = some F1_ := by decide
theorem ef_13_RRRR (m : MethodId) (x0 x1 : Addr) (x2 x3 : Addr) : entryFrame m #[(.ref x0), (.ref x1), (.ref x2), (.ref x3)] 4 = mkF m 0 #[vr x0, vr x1, vr x2, vr x3] [] := by first | (simp [entryFrame, mkF, argsToLocals, Value.category]; done) | rfl
theorem pn_3 : plainName "com/example/rosewood/rosewood/RosewoodMap$Node" = true := by first | (simp [plainName, overriddenIn]; done) | decide +kernel
theorem d13_0 : decode B12 0 = .ok (.aload_n 0, 1) := by decide +kernel
theorem d13_1 : decode B12 1 = .ok (.invokespecial 3, 3) := by decide +kernel
theorem d13_4 : decode B12 4 = .ok (.aload_n 0, 1) := by decide +kernel
theorem d13_5 : decode B12 5 = .ok (.ldc 9, 2) := by decide +kernel
theorem d13_7 : decode B12 7 = .ok (.putfield 10, 3) := by decide +kernel
theorem d13_10 : decode B12 10 = .ok (.aload_n 0, 1) := by decide +kernel
theorem d13_11 : decode B12 11 = .ok (.aload_n 1, 1) := by decide +kernel
theorem d13_12 : decode B12 12 = .ok (.putfield 16, 3) := by decide +kernel
theorem d13_15 : decode B12 15 = .ok (.aload_n 0, 1) := by decide +kernel
theorem d13_16 : decode B12 16 = .ok (.aload_n 2, 1) := by decide +kernel
theorem d13_17 : decode B12 17 = .ok (.putfield 20, 3) := by decide +kernel
theorem d13_20 : decode B12 20 = .ok (.aload_n 0, 1) := by decide +kernel
theorem d13_21 : decode B12 21 = .ok (.aload_n 3, 1) := by decide +kernel
theorem d13_22 : decode B12 22 = .ok (.putfield 23, 3) := by decide +kernel
theorem d13_25 : decode B12 25 = .ok (.return_, 1) := by decide +kernel
theorem rm_init_19 (hw : HW a0 Z) (a1 a2 : Addr) (a3 a4 : Addr) (h0 : Heap) (n0 : Nat) (Z0 : n0 ≤ h0.size) (O_a1 : R_ND Z h0 a1 .null .null .null .null .null (.int 0)) (g_a1 : n0 ≤ a1) :
    Ctr l Y13 B12 4 none [] (rmk 1 0 0 12) Z #[(.ref a1), (.ref a2), (.ref a3), (.ref a4)] h0 (fun v h L => v = none ∧ Fr n0 L ∧ Keep h0 h [a1] ∧ R_ND Z h a1 (.ref a2) (.ref a3) .null .null (.ref a4) (.int (-2147483648))) := by
  refine own_enter pn_3 (fun p e s m below meth c s₁ hx hby hml hown hnm hret hlk hZ X0 e0 => ?_)
  have N0 := Fr.nil n0
  have K0 := Keep.refl h0 [a1]
  rw [ef_13_RRRR m _ _ _ _]
  refine g_aloadN X0 hx (hb hby d13_0) rfl rfl ?_
  refine g_init X0 hx hZ hown (Wd81 hw) (Wd16 hw) (Wd17 hw) e0 (by rw [hml]; rfl) (hb hby d13_1) (by decide) (W := 0) (Nat.le_of_eq rfl) (by decide) (fun T1 X1 e1 => ?_)
  refine g_aloadN X1 hx (hb hby d13_4) rfl rfl ?_
  refine g_ldc X1 hx hZ hown (Wd82 hw) (hb hby d13_5) ?_
  refine g_putF X1 hx hZ hown (Wd83 hw) e1 O_a1.2.2.2.2.2.2 O_a1.1 (Or.inl (Wd84 hw)) (Wd76 hw) fd_0 rfl rfl (hb hby d13_7) (fun T2 h2 X2 e2 W2 => ?_)
  have N2 := Fr.snoc X2 N0 g_a1
  have O_a1_2 := R_ND_set_redAndLeftCount hw W2 O_a1
  have K2 := Keep.wr K0 W2 (mw 0 rfl)
  refine g_aloadN X2 hx (hb hby d13_10) rfl rfl ?_
  refine g_aloadN X2 hx (hb hby d13_11) rfl rfl ?_
  refine g_putF X2 hx hZ hown (Wd85 hw) e2 O_a1_2.2.1 O_a1_2.1 (Or.inl (Wd86 hw)) (Wd76 hw) fd_1 rfl rfl (hb hby d13_12) (fun T3 h3 X3 e3 W3 => ?_)
  have N3 := Fr.snoc X3 N2 g_a1
  have O_a1_3 := R_ND_set_key hw W3 O_a1_2
  have K3 := Keep.wr K2 W3 (mw 0 rfl)
  refine g_aloadN X3 hx (hb hby d13_15) rfl rfl ?_
  refine g_aloadN X3 hx (hb hby d13_16) rfl rfl ?_
  refine g_putF X3 hx hZ hown (Wd87 hw) e3 O_a1_3.2.2.1 O_a1_3.1 (Or.inl (Wd88 hw)) (Wd76 hw) fd_1 rfl rfl (hb hby d13_17) (fun T4 h4 X4 e4 W4 => ?_)
  have N4 := Fr.snoc X4 N3 g_a1
  have O_a1_4 := R_ND_set_value hw W4 O_a1_3
  have K4 := Keep.wr K3 W4 (mw 0 rfl)
  refine g_aloadN X4 hx (hb hby d13_20) rfl rfl ?_
  refine g_aloadN X4 hx (hb hby d13_21) rfl rfl ?_
  refine g_putF X4 hx hZ hown (Wd89 hw) e4 O_a1_4.2.2.2.2.2.1 O_a1_4.1 (Or.inl (Wd90 hw)) (Wd76 hw) fd_2 rfl rfl (hb hby d13_22) (fun T5 h5 X5 e5 W5 => ?_)
  have N5 := Fr.snoc X5 N4 g_a1
  have O_a1_5 := R_ND_set_parent hw W5 O_a1_4
  have K5 := Keep.wr K4 W5 (mw 0 rfl)
  exact own_retV X5 hx hret hlk (hb hby d13_25) (by decide) (by decide) (by rw [e5]; exact ⟨rfl, N5, K5, O_a1_5⟩)
theorem pd_12 : parseMethodDescriptor "(Ljava/lang/Object;Ljava/lang/Object;Lcom/example/rosewood/rosewood/RosewoodMap$Node;)V" = some ⟨[F3_, F3_, F1_], none⟩ := by decide +kernel
theorem lk12 {Z : State} {a0 : Array Value} (hw : HW a0 Z) : LkI "com/example/rosewood/rosewood/RosewoodMap" 199 Y13 B12 4 [F3_, F3_, F1_] none a0 Z := ⟨(hw _ (List.mem_of_getElem? (i := 78) rfl)), (hw _ (List.mem_of_getElem? (i := 79) rfl)), (hw _ (List.mem_of_getElem? (i := 80) rfl)), (Wd77 hw), rfl, by decide, pd_12⟩
theorem ef_12_RRRR (m : MethodId) (x0 x1 : Addr) (x2 x3 : Addr) : entryFrame m #[(.ref x0), (.ref x1), (.ref x2), (.ref x3)] 4 = mkF m 0 #[vr x0, vr x1, vr x2, vr x3] [] := by first | (simp [entryFrame, mkF, argsToLocals, Value.category]; done) | rfl
theorem d12_0 : decode B13 0 = .ok (.new 31, 3) := by decide +kernel
theorem d12_3 : decode B13 3 = .ok (.dup, 1) := by decide +kernel
theorem d12_4 : decode B13 4 = .ok (.aload_n 1, 1) := by decide +kernel
theorem d12_5 : decode B13 5 = .ok (.aload_n 2, 1) := by decide +kernel
theorem d12_6 : decode B13 6 = .ok (.aload_n 3, 1) := by decide +kernel
theorem d12_7 : decode B13 7 = .ok (.invokespecial 199, 3) := by decide +kernel
theorem d12_10 : decode B13 10 = .ok (.areturn, 1) := by decide +kernel
theorem rm_newNode_18 (hw : HW a0 Z) (a1 a2 : Addr) (a3 a4 : Addr) (h0 : Heap) (n0 : Nat) (Z0 : n0 ≤ h0.size)  :
    Ctr l Y14 B13 4 (some F1_) [] (rmk 2 1 6 28) Z #[(.ref a1), (.ref a2), (.ref a3), (.ref a4)] h0 (fun v h L => ∃ f1, v = some (.ref f1) ∧ Fr n0 L ∧ Keep h0 h [] ∧ h0.size ≤ f1 ∧ R_ND Z h f1 (.ref a2) (.ref a3) .null .null (.ref a4) (.int (-2147483648))) := by
  refine own_enter pn_2 (fun p e s m below meth c s₁ hx hby hml hown hnm hret hlk hZ X0 e0 => ?_)
  have N0 := Fr.nil n0
  have K0 := Keep.refl h0 []
  rw [ef_12_RRRR m _ _ _ _]
  obtain ⟨T1, h1, X1, e1, E1, A1, D1, -, st1⟩ := newO X0 hx hZ hown (Wd75 hw) (Wd76 hw) (Wd77 hw) e0 (g := (mkF m 0 #[vr a1, vr a2, vr a3, vr a4] [])) rfl (hb hby d12_0) (by decide) (by decide)
  obtain ⟨b1, g1⟩ : ∃ z, z = h0.size := ⟨_, rfl⟩
  rw [← g1] at A1 D1 st1
  have g_b1 : n0 ≤ b1 := Nat.le_trans Z0 (Nat.le_of_eq g1.symm)
  have Z1 : n0 ≤ h1.size := Nat.le_trans Z0 E1.1
  have sz_b1 : h0.size ≤ b1 := Nat.le_trans K0.1 (Nat.le_of_eq g1.symm)
  have K1 := Keep.ext K0 E1
  have O1 : R_ND Z h1 b1 .null .null .null .null .null (.int 0) := ⟨A1, D1 (Or.inl (Wd86 hw)) (ty := F3_) (by decide), D1 (Or.inl (Wd88 hw)) (ty := F3_) (by decide), D1 (Or.inl (Wd102 hw)) (ty := F1_) (by decide), D1 (Or.inl (Wd104 hw)) (ty := F1_) (by decide), D1 (Or.inl (Wd90 hw)) (ty := F1_) (by decide), D1 (Or.inl (Wd84 hw)) (ty := FieldType.int) (by decide)⟩
  refine Go.mp st1 ?_
  show Go p e below (T1.setTop (mkF m 3 #[vr a1, vr a2, vr a3, vr a4] [(.ref b1)])) _
  refine g_dup X1 hx (hb hby d12_3) rfl ?_
  refine g_aloadN X1 hx (hb hby d12_4) rfl rfl ?_
  refine g_aloadN X1 hx (hb hby d12_5) rfl rfl ?_
  refine g_aloadN X1 hx (hb hby d12_6) rfl rfl ?_
  refine g_I X1 hx hZ hown (lk12 hw) (rm_init_19 hw b1 a2 a3 a4 h1 n0 Z1 O1 g_b1) e1 (hb hby d12_7) hml.symm rfl (rest := [(.ref b1)]) rfl (W := 1) (Nat.le_of_eq rfl) (by decide) (fun v2 T2 L2 X2 q2 => ?_)
  obtain ⟨rfl, M2, Kc2, Rk2_0⟩ := q2
  have N2 := Fr.app N0 M2
  have K2 := Keep.trans K1 Kc2 (own_memc (Or.inr sz_b1) own_memn)
  exact own_retA X2 hx hret hlk rfl rfl (hb hby d12_10) (by decide) (by decide) (by rw [(rfl : T2.heap = T2.heap)]; exact ⟨b1, rfl, N2, K2, sz_b1, Rk2_0⟩)
theorem pd_13 : parseMethodDescriptor "(Ljava/lang/Object;Ljava/lang/Object;Lcom/example/rosewood/rosewood/RosewoodMap$Node;)Lcom/example/rosewood/rosewood/RosewoodMap$Node;" = some ⟨[F3_, F3_, F1_], some F1_⟩ := by decide +kernel
theorem lk13 {Z : State} {a0 : Array Value} (hw : HW a0 Z) : LkV "com/example/rosewood/rosewood/RosewoodMap" 233 Y14 "com/example/rosewood/rosewood/RosewoodMap" B13 4 (some F1_) [F3_, F3_, F1_] (some F1_) a0 Z := ⟨(hw _ (List.mem_of_getElem? (i := 70) rfl)), (hw _ (List.mem_of_getElem? (i := 71) rfl)), (hw _ (List.mem_of_getElem? (i := 73) rfl)), (hw _ (List.mem_of_getElem? (i := 72) rfl)), (hw _ (List.mem_of_getElem? (i := 74) rfl)), (Wd3 hw), by decide, pd_13⟩
theorem ef_16_RR (m : MethodId) (x0 x1 : Addr) : entryFrame m #[(.ref x0), (.ref x1)] 2 = mkF m 0 #[vr x0, vr x1] [] := by first | (simp [entryFrame, mkF, argsToLocals, Value.category]; done) | rfl
theorem d16_0 : decode B14 0 = .ok (.return_, 1) := by decide +kernel
theorem rm_refreshToRoot_20 (hw : HW a0 Z) (a1 a2 : Addr) (h0 : Heap) (n0 : Nat) (Z0 : n0 ≤ h0.size)  :
    Ctr l Y15 B14 2 none [] (rmk 0 0 0 0) Z #[(.ref a1), (.ref a2)] h0 (fun v h L => v = none ∧ Fr n0 L ∧ h = h0) := by
  refine own_enter pn_2 (fun p e s m below meth c s₁ hx hby hml hown hnm hret hlk hZ X0 e0 => ?_)
  have N0 := Fr.nil n0
  have K0 := Keep.refl h0 []
  rw [ef_16_RR m _ _]
  exact own_retV X0 hx hret hlk (hb hby d16_0) (by decide) (by decide) ⟨rfl, N0, e0⟩
theorem pd_14 : parseMethodDescriptor "(Lcom/example/rosewood/rosewood/RosewoodMap$Node;)V" = some ⟨[F1_], none⟩ := by decide +kernel
theorem lk14 {Z : State} {a0 : Array Value} (hw : HW a0 Z) : LkV "com/example/rosewood/rosewood/RosewoodMap" 241 Y15 "com/example/rosewood/rosewood/RosewoodMap" B14 2 none [F1_] none a0 Z := ⟨(hw _ (List.mem_of_getElem? (i := 108) rfl)), (hw _ (List.mem_of_getElem? (i := 109) rfl)), (hw _ (List.mem_of_getElem? (i := 111) rfl)), (hw _ (List.mem_of_getElem? (i := 110) rfl)), (hw _ (List.mem_of_getElem? (i := 112) rfl)), (Wd3 hw), by decide, pd_14⟩
theorem ef_18_R (m : MethodId) (x0 : Addr) : entryFrame m #[(.ref x0)] 1 = mkF m 0 #[vr x0] [] := by first | (simp [entryFrame, mkF, argsToLocals, Value.category]; done) | rfl
theorem d18_0 : decode B15 0 = .ok (.aload_n 0, 1) := by decide +kernel
theorem d18_1 : decode B15 1 = .ok (.ifnull 14, 3) := by decide +kernel
theorem d18_4 : decode B15 4 = .ok (.aload_n 0, 1) := by decide +kernel
theorem d18_5 : decode B15 5 = .ok (.getfield 285, 3) := by decide +kernel
theorem d18_8 : decode B15 8 = .ok (.ifCond .ge 7, 3) := by decide +kernel
theorem d18_15 : decode B15 15 = .ok (.iconst 0, 1) := by decide +kernel
theorem d18_16 : decode B15 16 = .ok (.ireturn, 1) := by decide +kernel
theorem rm_isRed_22 (hw : HW a0 Z) (a1 a2 : Addr) (a3 a4 : Addr) (h0 : Heap) (n0 : Nat) (Z0 : n0 ≤ h0.size) (O_a1 : R_ND Z h0 a1 (.ref a2) (.ref a3) (.ref a4) .null .null (.int 1)) :
    Ctr l Y16 B15 1 (some FieldType.boolean) [] (rmk 0 0 0 0) Z #[(.ref a1)] h0 (fun v h L => v = some (.int 0) ∧ Fr n0 L ∧ h = h0) := by
  refine own_enter pn_2 (fun p e s m below meth c s₁ hx hby hml hown hnm hret hlk hZ X0 e0 => ?_)
  have N0 := Fr.nil n0
  have K0 := Keep.refl h0 []
  rw [ef_18_R m _]
  refine g_aloadN X0 hx (hb hby d18_0) rfl rfl ?_
  refine g_nullNo X0 hx (hb hby d18_1) ?_
  refine g_aloadN X0 hx (hb hby d18_4) rfl rfl ?_
  refine g_getF X0 hx hZ hown (Wd94 hw) e0 O_a1.2.2.2.2.2.2 (hb hby d18_5) (fun T1 X1 e1 => ?_)
  refine g_ifYes X1 hx 15 (hb hby d18_8) ((if0 _ _).trans (flt ((by decide) : ¬ ((1 : Int32) < (0 : Int32)))).2.1) (by decide) (by decide) ?_
  refine g_iconst X1 hx (0 : Int32) (hb hby d18_15) (by decide) ?_
  exact own_retZ X1 hx hret hlk (hb hby d18_16) (by decide) (by decide) (by decide) ⟨rfl, N0, e1⟩
theorem pd_15 : parseMethodDescriptor "(Lcom/example/rosewood/rosewood/RosewoodMap$Node;)Z" = some ⟨[F1_], some FieldType.boolean⟩ := by decide +kernel
theorem lk15 {Z : State} {a0 : Array Value} (hw : HW a0 Z) : LkS "com/example/rosewood/rosewood/RosewoodMap" 300 Y16 B15 1 (some FieldType.boolean) [F1_] (some FieldType.boolean) a0 Z := ⟨(hw _ (List.mem_of_getElem? (i := 118) rfl)), (hw _ (List.mem_of_getElem? (i := 119) rfl)), (Wd3 hw), (hw _ (List.mem_of_getElem? (i := 120) rfl)), by decide, pd_15⟩
theorem ef_14_RI (m : MethodId) (x0 : Addr) (x1 : Int32) : entryFrame m #[(.ref x0), (.int x1)] 2 = mkF m 0 #[vr x0, vi x1] [] := by first | (simp [entryFrame, mkF, argsToLocals, Value.category]; done) | rfl
theorem d14_0 : decode B16 0 = .ok (.aload_n 0, 1) := by decide +kernel
theorem d14_1 : decode B16 1 = .ok (.iload_n 1, 1) := by decide +kernel
theorem d14_2 : decode B16 2 = .ok (.ifCond .eq 14, 3) := by decide +kernel
theorem d14_16 : decode B16 16 = .ok (.aload_n 0, 1) := by decide +kernel
theorem d14_17 : decode B16 17 = .ok (.getfield 285, 3) := by decide +kernel
theorem d14_20 : decode B16 20 = .ok (.ldc_w 289, 3) := by decide +kernel
theorem d14_23 : decode B16 23 = .ok (.iand, 1) := by decide +kernel
theorem d14_24 : decode B16 24 = .ok (.putfield 285, 3) := by decide +kernel
theorem d14_27 : decode B16 27 = .ok (.return_, 1) := by decide +kernel
theorem rm_setRed_23 (hw : HW a0 Z) (a1 a2 : Addr) (a3 a4 : Addr) (h0 : Heap) (n0 : Nat) (Z0 : n0 ≤ h0.size) (O_a1 : R_ND Z h0 a1 (.ref a2) (.ref a3) (.ref a4) .null .null (.int 1)) (g_a1 : n0 ≤ a1) :
    Ctr l Y17 B16 2 none [] (rmk 0 0 0 0) Z #[(.ref a1), (.int 0)] h0 (fun v h L => v = none ∧ Fr n0 L ∧ Keep h0 h [a1] ∧ R_ND Z h a1 (.ref a2) (.ref a3) (.ref a4) .null .null (.int 1)) := by
  refine own_enter pn_2 (fun p e s m below meth c s₁ hx hby hml hown hnm hret hlk hZ X0 e0 => ?_)
  have N0 := Fr.nil n0
  have K0 := Keep.refl h0 [a1]
  rw [ef_14_RI m _ _]
  refine g_aloadN X0 hx (hb hby d14_0) rfl rfl ?_
  refine g_iloadN X0 hx (hb hby d14_1) rfl ?_
  refine g_ifYes X0 hx 16 (hb hby d14_2) ((if0 _ _).trans (teq ((by decide) : (0 : Int32) = (0 : Int32))).1) (by decide) (by decide) ?_
  refine g_aloadN X0 hx (hb hby d14_16) rfl rfl ?_
  refine g_getF X0 hx hZ hown (Wd94 hw) e0 O_a1.2.2.2.2.2.2 (hb hby d14_17) (fun T1 X1 e1 => ?_)
  refine g_ldcw X1 hx hZ hown (Wd95 hw) (hb hby d14_20) ?_
  refine g_iand X1 hx (hb hby d14_23) ?_
  show Go p e below (T1.setTop (mkF m 24 #[vr a1, vi 0] [(.int ((1 : Int32) &&& (2147483647 : Int32))), (.ref a1)])) _
  rw [show ((1 : Int32) &&& (2147483647 : Int32)) = (1 : Int32) from by decide]
  refine g_putF X1 hx hZ hown (Wd94 hw) e1 O_a1.2.2.2.2.2.2 O_a1.1 (Or.inl (Wd84 hw)) (Wd76 hw) fd_0 rfl rfl (hb hby d14_24) (fun T2 h2 X2 e2 W2 => ?_)
  have N2 := Fr.snoc X2 N0 g_a1
  have O_a1_2 := R_ND_set_redAndLeftCount hw W2 O_a1
  have K2 := Keep.wr K0 W2 (mw 0 rfl)
  exact own_retV X2 hx hret hlk (hb hby d14_27) (by decide) (by decide) (by rw [e2]; exact ⟨rfl, N2, K2, O_a1_2⟩)
theorem pd_16 : parseMethodDescriptor "(Lcom/example/rosewood/rosewood/RosewoodMap$Node;Z)V" = some ⟨[F1_, FieldType.boolean], none⟩ := by decide +kernel
theorem lk16 {Z : State} {a0 : Array Value} (hw : HW a0 Z) : LkS "com/example/rosewood/rosewood/RosewoodMap" 237 Y17 B16 2 none [F1_, FieldType.boolean] none a0 Z := ⟨(hw _ (List.mem_of_getElem? (i := 91) rfl)), (hw _ (List.mem_of_getElem? (i := 92) rfl)), (Wd3 hw), (hw _ (List.mem_of_getElem? (i := 93) rfl)), by decide, pd_16⟩
theorem ef_17_RR (m : MethodId) (x0 x1 : Addr) : entryFrame m #[(.ref x0), (.ref x1)] 6 = mkF m 0 #[vr x0, vr x1, vu, vu, vu, vu] [] := by first | (simp [entryFrame, mkF, argsToLocals, Value.category]; done) | rfl
theorem d17_0 : decode B17 0 = .ok (.aload_n 1, 1) := by decide +kernel
theorem d17_1 : decode B17 1 = .ok (.astore_n 2, 1) := by decide +kernel
theorem d17_2 : decode B17 2 = .ok (.aload_n 2, 1) := by decide +kernel
theorem d17_3 : decode B17 3 = .ok (.getfield 282, 3) := by decide +kernel
theorem d17_6 : decode B17 6 = .ok (.invokestatic 300, 3) := by decide +kernel
theorem d17_9 : decode B17 9 = .ok (.ifCond .eq 179, 3) := by decide +kernel
theorem d17_188 : decode B17 188 = .ok (.aload_n 0, 1) := by decide +kernel
theorem d17_189 : decode B17 189 = .ok (.getfield 22, 3) := by decide +kernel
theorem d17_192 : decode B17 192 = .ok (.iconst 0, 1) := by decide +kernel
theorem d17_193 : decode B17 193 = .ok (.invokestatic 237, 3) := by decide +kernel
theorem d17_196 : decode B17 196 = .ok (.return_, 1) := by decide +kernel
theorem rm_balanceAfterInsert_21 (hw : HW a0 Z) (a1 a2 a3 : Addr) (i1 : Int32) (a4 a5 : Addr) (a6 a7 : Addr) (i2 i3 : Int32) (h0 : Heap) (n0 : Nat) (Z0 : n0 ≤ h0.size) (O_a1 : R_MP Z h0 a1 .null (.ref a3) (.int 2) (.int i1)) (O_a2 : R_ND Z h0 a2 (.ref a4) (.ref a5) .null .null (.ref a3) (.int (-2147483648))) (O_a3 : R_ND Z h0 a3 (.ref a6) (.ref a7) (.ref a2) .null .null (.int 1)) (g_a3 : n0 ≤ a3) (hk0 : i2 < i3) :
    Ctr l Y18 B17 6 none [] (rmk 1 0 0 13) Z #[(.ref a1), (.ref a2)] h0 (fun v h L => v = none ∧ Fr n0 L ∧ Keep h0 h [a3] ∧ R_ND Z h a3 (.ref a6) (.ref a7) (.ref a2) .null .null (.int 1)) := by
  refine own_enter pn_2 (fun p e s m below meth c s₁ hx hby hml hown hnm hret hlk hZ X0 e0 => ?_)
  have N0 := Fr.nil n0
  have K0 := Keep.refl h0 [a3]
  rw [ef_17_RR m _ _]
  refine g_aloadN X0 hx (hb hby d17_0) rfl rfl ?_
  refine g_astoreN X0 hx #[vr a1, vr a2, vr a2, vu, vu, vu] (hb hby d17_1) rfl rfl ?_
  refine g_aloadN X0 hx (hb hby d17_2) rfl rfl ?_
  refine g_getF X0 hx hZ hown (Wd117 hw) e0 O_a2.2.2.2.2.2.1 (hb hby d17_3) (fun T1 X1 e1 => ?_)
  refine g_S X1 hx hZ hown (lk15 hw) (rm_isRed_22 hw a3 a6 a7 a2 h0 n0 Z0 O_a3) e1 (hb hby d17_6) hml.symm rfl rfl (Nat.le_refl _) (by decide) (fun v2 T2 L2 X2 q2 => ?_)
  obtain ⟨rfl, M2, e2⟩ := q2
  have N2 := Fr.app N0 M2
  refine g_ifYes X2 hx 188 (hb hby d17_9) ((if0 _ _).trans (teq ((by decide) : (0 : Int32) = (0 : Int32))).1) (by decide) (by decide) ?_
  refine g_aloadN X2 hx (hb hby d17_188) rfl rfl ?_
  refine g_getF X2 hx hZ hown (Wd25 hw) e2 O_a1.2.2.1 (hb hby d17_189) (fun T3 X3 e3 => ?_)
  refine g_iconst X3 hx (0 : Int32) (hb hby d17_192) (by decide) ?_
  refine g_S X3 hx hZ hown (lk16 hw) (rm_setRed_23 hw a3 a6 a7 a2 h0 n0 Z0 O_a3 g_a3) e3 (hb hby d17_193) hml.symm rfl rfl (Nat.le_refl _) (by decide) (fun v4 T4 L4 X4 q4 => ?_)
  obtain ⟨rfl, M4, Kc4, Rk4_0⟩ := q4
  have N4 := Fr.app N2 M4
  have K4 := Keep.trans K0 Kc4 (own_memc (mw 0 rfl) own_memn)
  exact own_retV X4 hx hret hlk (hb hby d17_196) (by decide) (by decide) (by rw [(rfl : T4.heap = T4.heap)]; exact ⟨rfl, N4, K4, Rk4_0⟩)
theorem lk17 {Z : State} {a0 : Array Value} (hw : HW a0 Z) : LkP "com/example/rosewood/rosewood/RosewoodMap" 244 Y18 7 B17 6 none [F1_] none a0 Z := ⟨(hw _ (List.mem_of_getElem? (i := 113) rfl)), (hw _ (List.mem_of_getElem? (i := 114) rfl)), (hw _ (List.mem_of_getElem? (i := 115) rfl)), (Wd2 hw), (hw _ (List.mem_of_getElem? (i := 116) rfl)), (Wd3 hw), by decide, pd_14⟩
theorem ef_33_RRR (m : MethodId) (x0 x1 x2 : Addr) : entryFrame m #[(.ref x0), (.ref x1), (.ref x2)] 15 = mkF m 0 #[vr x0, vr x1, vr x2, vu, vu, vu, vu, vu, vu, vu, vu, vu, vu, vu, vu] [] := by first | (simp [entryFrame, mkF, argsToLocals, Value.category]; done) | rfl
theorem d33_0 : decode B18 0 = .ok (.aload_n 0, 1) := by decide +kernel
theorem d33_1 : decode B18 1 = .ok (.getfield 22, 3) := by decide +kernel
theorem d33_4 : decode B18 4 = .ok (.ifnonnull 46, 3) := by decide +kernel
theorem d33_50 : decode B18 50 = .ok (.aconst_null, 1) := by decide +kernel
theorem d33_51 : decode B18 51 = .ok (.astore_n 3, 1) := by decide +kernel
theorem d33_52 : decode B18 52 = .ok (.iconst 0, 1) := by decide +kernel
theorem d33_53 : decode B18 53 = .ok (.istore 4, 2) := by decide +kernel
theorem d33_55 : decode B18 55 = .ok (.aload_n 0, 1) := by decide +kernel
theorem d33_56 : decode B18 56 = .ok (.getfield 22, 3) := by decide +kernel
theorem d33_59 : decode B18 59 = .ok (.astore 5, 2) := by decide +kernel
theorem d33_61 : decode B18 61 = .ok (.aload 5, 2) := by decide +kernel
theorem d33_63 : decode B18 63 = .ok (.getfield 92, 3) := by decide +kernel
theorem d33_66 : decode B18 66 = .ok (.astore 6, 2) := by decide +kernel
theorem d33_68 : decode B18 68 = .ok (.aconst_null, 1) := by decide +kernel
theorem d33_69 : decode B18 69 = .ok (.astore 7, 2) := by decide +kernel
theorem d33_71 : decode B18 71 = .ok (.aload 5, 2) := by decide +kernel
theorem d33_73 : decode B18 73 = .ok (.ifnull 113, 3) := by decide +kernel
theorem d33_76 : decode B18 76 = .ok (.aload 5, 2) := by decide +kernel
theorem d33_78 : decode B18 78 = .ok (.getfield 211, 3) := by decide +kernel
theorem d33_81 : decode B18 81 = .ok (.astore 8, 2) := by decide +kernel
theorem d33_83 : decode B18 83 = .ok (.aload 5, 2) := by decide +kernel
theorem d33_85 : decode B18 85 = .ok (.getfield 214, 3) := by decide +kernel
theorem d33_88 : decode B18 88 = .ok (.astore 9, 2) := by decide +kernel
theorem d33_90 : decode B18 90 = .ok (.aload 8, 2) := by decide +kernel
theorem d33_92 : decode B18 92 = .ok (.invokestatic 121, 3) := by decide +kernel
theorem d33_95 : decode B18 95 = .ok (.astore 10, 2) := by decide +kernel
theorem d33_97 : decode B18 97 = .ok (.aload 9, 2) := by decide +kernel
theorem d33_99 : decode B18 99 = .ok (.invokestatic 121, 3) := by decide +kernel
theorem d33_102 : decode B18 102 = .ok (.astore 11, 2) := by decide +kernel
theorem d33_104 : decode B18 104 = .ok (.aload_n 0, 1) := by decide +kernel
theorem d33_105 : decode B18 105 = .ok (.aload_n 1, 1) := by decide +kernel
theorem d33_106 : decode B18 106 = .ok (.aload 6, 2) := by decide +kernel
theorem d33_108 : decode B18 108 = .ok (.invokevirtual 217, 3) := by decide +kernel
theorem d33_111 : decode B18 111 = .ok (.istore 12, 2) := by decide +kernel
theorem d33_113 : decode B18 113 = .ok (.iload 12, 2) := by decide +kernel
theorem d33_115 : decode B18 115 = .ok (.ifCond .ne 22, 3) := by decide +kernel
theorem d33_137 : decode B18 137 = .ok (.aload 5, 2) := by decide +kernel
theorem d33_139 : decode B18 139 = .ok (.astore_n 3, 1) := by decide +kernel
theorem d33_140 : decode B18 140 = .ok (.iload 12, 2) := by decide +kernel
theorem d33_142 : decode B18 142 = .ok (.istore 4, 2) := by decide +kernel
theorem d33_144 : decode B18 144 = .ok (.iload 12, 2) := by decide +kernel
theorem d33_146 : decode B18 146 = .ok (.ifCond .ge 9, 3) := by decide +kernel
theorem d33_149 : decode B18 149 = .ok (.aload 5, 2) := by decide +kernel
theorem d33_151 : decode B18 151 = .ok (.iconst 1, 1) := by decide +kernel
theorem d33_152 : decode B18 152 = .ok (.invokestatic 221, 3) := by decide +kernel
theorem d33_155 : decode B18 155 = .ok (.iload 12, 2) := by decide +kernel
theorem d33_157 : decode B18 157 = .ok (.ifCond .ge 8, 3) := by decide +kernel
theorem d33_160 : decode B18 160 = .ok (.aload 8, 2) := by decide +kernel
theorem d33_162 : decode B18 162 = .ok (.goto 5, 3) := by decide +kernel
theorem d33_167 : decode B18 167 = .ok (.astore 5, 2) := by decide +kernel
theorem d33_169 : decode B18 169 = .ok (.iload 12, 2) := by decide +kernel
theorem d33_171 : decode B18 171 = .ok (.ifCond .ge 8, 3) := by decide +kernel
theorem d33_174 : decode B18 174 = .ok (.aload 10, 2) := by decide +kernel
theorem d33_176 : decode B18 176 = .ok (.goto 5, 3) := by decide +kernel
theorem d33_181 : decode B18 181 = .ok (.astore 6, 2) := by decide +kernel
theorem d33_183 : decode B18 183 = .ok (.goto (-112), 3) := by decide +kernel
theorem d33_186 : decode B18 186 = .ok (.aload_n 0, 1) := by decide +kernel
theorem d33_187 : decode B18 187 = .ok (.aload_n 1, 1) := by decide +kernel
theorem d33_188 : decode B18 188 = .ok (.aload_n 2, 1) := by decide +kernel
theorem d33_189 : decode B18 189 = .ok (.aload_n 3, 1) := by decide +kernel
theorem d33_190 : decode B18 190 = .ok (.invokevirtual 233, 3) := by decide +kernel
theorem d33_193 : decode B18 193 = .ok (.astore 7, 2) := by decide +kernel
theorem d33_195 : decode B18 195 = .ok (.aload 7, 2) := by decide +kernel
theorem d33_197 : decode B18 197 = .ok (.ifnonnull 30, 3) := by decide +kernel
theorem d33_227 : decode B18 227 = .ok (.iload 4, 2) := by decide +kernel
theorem d33_229 : decode B18 229 = .ok (.ifCond .ge 12, 3) := by decide +kernel
theorem d33_232 : decode B18 232 = .ok (.aload_n 3, 1) := by decide +kernel
theorem d33_233 : decode B18 233 = .ok (.aload 7, 2) := by decide +kernel
theorem d33_235 : decode B18 235 = .ok (.putfield 211, 3) := by decide +kernel
theorem d33_238 : decode B18 238 = .ok (.goto 9, 3) := by decide +kernel
theorem d33_247 : decode B18 247 = .ok (.aload_n 0, 1) := by decide +kernel
theorem d33_248 : decode B18 248 = .ok (.dup, 1) := by decide +kernel
theorem d33_249 : decode B18 249 = .ok (.getfield 18, 3) := by decide +kernel
theorem d33_252 : decode B18 252 = .ok (.iconst 1, 1) := by decide +kernel
theorem d33_253 : decode B18 253 = .ok (.iadd, 1) := by decide +kernel
theorem d33_254 : decode B18 254 = .ok (.putfield 18, 3) := by decide +kernel
theorem d33_257 : decode B18 257 = .ok (.aload_n 0, 1) := by decide +kernel
theorem d33_258 : decode B18 258 = .ok (.aload_n 3, 1) := by decide +kernel
theorem d33_259 : decode B18 259 = .ok (.invokevirtual 241, 3) := by decide +kernel
theorem d33_262 : decode B18 262 = .ok (.aload_n 0, 1) := by decide +kernel
theorem d33_263 : decode B18 263 = .ok (.aload 7, 2) := by decide +kernel
theorem d33_265 : decode B18 265 = .ok (.invokevirtual 244, 3) := by decide +kernel
theorem d33_268 : decode B18 268 = .ok (.aload_n 0, 1) := by decide +kernel
theorem d33_269 : decode B18 269 = .ok (.dup, 1) := by decide +kernel
theorem d33_270 : decode B18 270 = .ok (.getfield 51, 3) := by decide +kernel
theorem d33_273 : decode B18 273 = .ok (.iconst 1, 1) := by decide +kernel
theorem d33_274 : decode B18 274 = .ok (.iadd, 1) := by decide +kernel
theorem d33_275 : decode B18 275 = .ok (.putfield 51, 3) := by decide +kernel
theorem d33_278 : decode B18 278 = .ok (.aconst_null, 1) := by decide +kernel
theorem d33_279 : decode B18 279 = .ok (.areturn, 1) := by decide +kernel
theorem rm_addIfAbsent_11 (hw : HW a0 Z) (a1 a2 : Addr) (a3 a4 : Addr) (i1 i2 : Int32) (a5 a6 : Addr) (i3 : Int32) (h0 : Heap) (n0 : Nat) (Z0 : n0 ≤ h0.size) (O_a1 : R_MP Z h0 a1 .null (.ref a4) (.int 1) (.int i1)) (O_a2 : R_IN Z h0 a2 (.int i2)) (O_a4 : R_ND Z h0 a4 (.ref a5) (.ref a6) .null .null .null (.int 0)) (O_a5 : R_IN Z h0 a5 (.int i3)) (ne_a1_a4 : a1 ≠ a4) (g_a1 : n0 ≤ a1) (g_a4 : n0 ≤ a4) (hk0 : i2 < i3) :
    CtrH l Y19 B18 15 (some F1_) [(71, 122, 210, 0), (137, 195, 210, 0), (210, 212, 210, 0)] (rmk 4 1 6 53) Z #[(.ref a1), (.ref a2), (.ref a3)] h0 (fun v h L => ∃ f1, v = some .null ∧ Fr n0 L ∧ Keep h0 h [a1, a4] ∧ h0.size ≤ f1 ∧ R_MP Z h a1 .null (.ref a4) (.int 2) (.int (i1 + (1 : Int32))) ∧ R_ND Z h a4 (.ref a5) (.ref a6) (.ref f1) .null .null (.int 1) ∧ R_ND Z h f1 (.ref a2) (.ref a3) .null .null (.ref a4) (.int (-2147483648))) := by
  refine own_enterH pn_2 (fun p e s m below meth c s₁ hx hby hml hown hnm hret hlk hZ X0 e0 => ?_)
  have D {q : Nat} {r} (z : decode B18 q = r) : decode c.code q = r := hb hby z
  have N0 := Fr.nil n0
  have K0 := Keep.refl h0 [a1, a4]
  rw [ef_33_RRR m _ _ _]
  refine g_aloadN X0 hx (D d33_0) rfl rfl ?_
  refine g_getF X0 hx hZ hown (Wd25 hw) e0 O_a1.2.2.1 (D d33_1) (fun T1 X1 e1 => ?_)
  refine g_nonnullYes X1 hx 50 (D d33_4) (by decide) (by decide) ?_
  refine g_null X1 hx (D d33_50) ?_
  refine g_astoreN X1 hx #[vr a1, vr a2, vr a3, vn, vu, vu, vu, vu, vu, vu, vu, vu, vu, vu, vu] (D d33_51) rfl rfl ?_
  refine g_iconst X1 hx (0 : Int32) (D d33_52) (by decide) ?_
  refine g_istore X1 hx #[vr a1, vr a2, vr a3, vn, vi 0, vu, vu, vu, vu, vu, vu, vu, vu, vu, vu] (D d33_53) rfl ?_
  refine g_aloadN X1 hx (D d33_55) rfl rfl ?_
  refine g_getF X1 hx hZ hown (Wd25 hw) e1 O_a1.2.2.1 (D d33_56) (fun T2 X2 e2 => ?_)
  refine g_astore X2 hx #[vr a1, vr a2, vr a3, vn, vi 0, vr a4, vu, vu, vu, vu, vu, vu, vu, vu, vu] (D d33_59) rfl rfl ?_
  refine g_aload X2 hx (D d33_61) rfl rfl ?_
  refine g_getF X2 hx hZ hown (Wd100 hw) e2 O_a4.2.1 (D d33_63) (fun T3 X3 e3 => ?_)
  refine g_astore X3 hx #[vr a1, vr a2, vr a3, vn, vi 0, vr a4, vr a5, vu, vu, vu, vu, vu, vu, vu, vu] (D d33_66) rfl rfl ?_
  refine g_null X3 hx (D d33_68) ?_
  refine g_astore X3 hx #[vr a1, vr a2, vr a3, vn, vi 0, vr a4, vr a5, vn, vu, vu, vu, vu, vu, vu, vu] (D d33_69) rfl rfl ?_
  refine g_aload X3 hx (D d33_71) rfl rfl ?_
  refine g_nullNo X3 hx (D d33_73) ?_
  refine g_aload X3 hx (D d33_76) rfl rfl ?_
  refine g_getF X3 hx hZ hown (Wd101 hw) e3 O_a4.2.2.2.1 (D d33_78) (fun T4 X4 e4 => ?_)
  refine g_astore X4 hx #[vr a1, vr a2, vr a3, vn, vi 0, vr a4, vr a5, vn, vn, vu, vu, vu, vu, vu, vu] (D d33_81) rfl rfl ?_
  refine g_aload X4 hx (D d33_83) rfl rfl ?_
  refine g_getF X4 hx hZ hown (Wd103 hw) e4 O_a4.2.2.2.2.1 (D d33_85) (fun T5 X5 e5 => ?_)
  refine g_astore X5 hx #[vr a1, vr a2, vr a3, vn, vi 0, vr a4, vr a5, vn, vn, vn, vu, vu, vu, vu, vu] (D d33_88) rfl rfl ?_
  refine g_aload X5 hx (D d33_90) rfl rfl ?_
  refine g_S X5 hx hZ hown (lk6 hw) (rm_keyOf_12 hw  h0 n0 Z0 ) e5 (D d33_92) hml.symm rfl rfl (Nat.le_refl _) (by decide) (fun v6 T6 L6 X6 q6 => ?_)
  obtain ⟨rfl, M6, e6⟩ := q6
  have N6 := Fr.app N0 M6
  refine g_astore X6 hx #[vr a1, vr a2, vr a3, vn, vi 0, vr a4, vr a5, vn, vn, vn, vn, vu, vu, vu, vu] (D d33_95) rfl rfl ?_
  refine g_aload X6 hx (D d33_97) rfl rfl ?_
  refine g_S X6 hx hZ hown (lk6 hw) (rm_keyOf_12 hw  h0 n0 Z0 ) e6 (D d33_99) hml.symm rfl rfl (Nat.le_refl _) (by decide) (fun v7 T7 L7 X7 q7 => ?_)
  obtain ⟨rfl, M7, e7⟩ := q7
  have N7 := Fr.app N6 M7
  refine g_astore X7 hx #[vr a1, vr a2, vr a3, vn, vi 0, vr a4, vr a5, vn, vn, vn, vn, vn, vu, vu, vu] (D d33_102) rfl rfl ?_
  refine g_aloadN X7 hx (D d33_104) rfl rfl ?_
  refine g_aloadN X7 hx (D d33_105) rfl rfl ?_
  refine g_aload X7 hx (D d33_106) rfl rfl ?_
  refine g_V X7 hx hZ hown (lk10 hw) (rm_compare_13 hw a1 a2 a5 a4 i1 i2 i3 h0 n0 Z0 O_a1 O_a2 O_a5 hk0) e7 O_a1.1 (D d33_108) hml.symm rfl rfl (Nat.le_refl _) (by decide) (fun v8 T8 L8 X8 q8 => ?_)
  obtain ⟨rfl, M8, e8⟩ := q8
  have N8 := Fr.app N7 M8
  refine g_istore X8 hx #[vr a1, vr a2, vr a3, vn, vi 0, vr a4, vr a5, vn, vn, vn, vn, vn, vi (-1), vu, vu] (D d33_111) rfl ?_
  refine g_iload X8 hx (D d33_113) rfl ?_
  refine g_ifYes X8 hx 137 (D d33_115) ((if0 _ _).trans (feq ((by decide) : ¬ ((-1 : Int32) = (0 : Int32)))).2) (by decide) (by decide) ?_
  refine g_aload X8 hx (D d33_137) rfl rfl ?_
  refine g_astoreN X8 hx #[vr a1, vr a2, vr a3, vr a4, vi 0, vr a4, vr a5, vn, vn, vn, vn, vn, vi (-1), vu, vu] (D d33_139) rfl rfl ?_
  refine g_iload X8 hx (D d33_140) rfl ?_
  refine g_istore X8 hx #[vr a1, vr a2, vr a3, vr a4, vi (-1), vr a4, vr a5, vn, vn, vn, vn, vn, vi (-1), vu, vu] (D d33_142) rfl ?_
  refine g_iload X8 hx (D d33_144) rfl ?_
  refine g_ifNo X8 hx (D d33_146) ((if0 _ _).trans (tlt ((by decide) : (-1 : Int32) < (0 : Int32))).2.1) ?_
  refine g_aload X8 hx (D d33_149) rfl rfl ?_
  refine g_iconst X8 hx (1 : Int32) (D d33_151) (by decide) ?_
  refine g_S X8 hx hZ hown (lk11 hw) (rm_addToLeftCount_17 hw a4 a5 a6 h0 n0 Z0 O_a4 g_a4) e8 (D d33_152) hml.symm rfl rfl (Nat.le_refl _) (by decide) (fun v9 T9 L9 X9 q9 => ?_)
  obtain ⟨rfl, M9, Kc9, Rk9_0⟩ := q9
  have N9 := Fr.app N8 M9
  have O_a1_9 := R_MP_keep O_a1 Kc9 (own_nin ne_a1_a4 nl)
  have K9 := Keep.trans K0 Kc9 (own_memc (mw 1 rfl) own_memn)
  have Z9 : n0 ≤ T9.heap.size := Nat.le_trans Z0 Kc9.1
  refine g_iload X9 hx (D d33_155) rfl ?_
  refine g_ifNo X9 hx (D d33_157) ((if0 _ _).trans (tlt ((by decide) : (-1 : Int32) < (0 : Int32))).2.1) ?_
  refine g_aload X9 hx (D d33_160) rfl rfl ?_
  refine g_goto X9 hx 167 (D d33_162) (by decide) (by decide) ?_
  refine g_astore X9 hx #[vr a1, vr a2, vr a3, vr a4, vi (-1), vn, vr a5, vn, vn, vn, vn, vn, vi (-1), vu, vu] (D d33_167) rfl rfl ?_
  refine g_iload X9 hx (D d33_169) rfl ?_
  refine g_ifNo X9 hx (D d33_171) ((if0 _ _).trans (tlt ((by decide) : (-1 : Int32) < (0 : Int32))).2.1) ?_
  refine g_aload X9 hx (D d33_174) rfl rfl ?_
  refine g_goto X9 hx 181 (D d33_176) (by decide) (by decide) ?_
  refine g_astore X9 hx #[vr a1, vr a2, vr a3, vr a4, vi (-1), vn, vn, vn, vn, vn, vn, vn, vi (-1), vu, vu] (D d33_181) rfl rfl ?_
  refine g_goto X9 hx 71 (D d33_183) (by decide) (by decide) ?_
  refine g_aload X9 hx (D d33_71) rfl rfl ?_
  refine g_nullYes X9 hx 186 (D d33_73) (by decide) (by decide) ?_
  refine g_aloadN X9 hx (D d33_186) rfl rfl ?_
  refine g_aloadN X9 hx (D d33_187) rfl rfl ?_
  refine g_aloadN X9 hx (D d33_188) rfl rfl ?_
  refine g_aloadN X9 hx (D d33_189) rfl rfl ?_
  refine g_V X9 hx hZ hown (lk13 hw) (rm_newNode_18 hw a1 a2 a3 a4 T9.heap n0 Z9 ) (rfl : T9.heap = T9.heap) O_a1_9.1 (D d33_190) hml.symm rfl rfl (Nat.le_refl _) (by decide) (fun v10 T10 L10 X10 q10 => ?_)
  obtain ⟨b10_0, rfl, M10, Kc10, zb10_0, Rk10_0⟩ := q10
  have N10 := Fr.app N9 M10
  have ne_a1_b10_0 : a1 ≠ b10_0 := Nat.ne_of_lt (Nat.lt_of_lt_of_le O_a1_9.1.lt zb10_0)
  have ne_a4_b10_0 : a4 ≠ b10_0 := Nat.ne_of_lt (Nat.lt_of_lt_of_le Rk9_0.1.lt zb10_0)
  have sz_b10_0 : h0.size ≤ b10_0 := Nat.le_trans K9.1 zb10_0
  have O_a1_10 := R_MP_keep O_a1_9 Kc10 nl
  have O_a4_10 := R_ND_keep Rk9_0 Kc10 nl
  have K10 := Keep.trans K9 Kc10 own_memn
  have Z10 : n0 ≤ T10.heap.size := Nat.le_trans Z9 Kc10.1
  refine g_astore X10 hx #[vr a1, vr a2, vr a3, vr a4, vi (-1), vn, vn, vr b10_0, vn, vn, vn, vn, vi (-1), vu, vu] (D d33_193) rfl rfl ?_
  refine g_aload X10 hx (D d33_195) rfl rfl ?_
  refine g_nonnullYes X10 hx 227 (D d33_197) (by decide) (by decide) ?_
  refine g_iload X10 hx (D d33_227) rfl ?_
  refine g_ifNo X10 hx (D d33_229) ((if0 _ _).trans (tlt ((by decide) : (-1 : Int32) < (0 : Int32))).2.1) ?_
  refine g_aloadN X10 hx (D d33_232) rfl rfl ?_
  refine g_aload X10 hx (D d33_233) rfl rfl ?_
  refine g_putF X10 hx hZ hown (Wd101 hw) (rfl : T10.heap = T10.heap) O_a4_10.2.2.2.1 O_a4_10.1 (Or.inl (Wd102 hw)) (Wd76 hw) fd_2 rfl rfl (D d33_235) (fun T11 h11 X11 e11 W11 => ?_)
  have N11 := Fr.snoc X11 N10 g_a4
  have O_a1_11 := R_MP_other W11 O_a1_10 ne_a1_a4
  have O_a4_11 := R_ND_set_left hw W11 O_a4_10
  have O_b10_0_11 := R_ND_other W11 Rk10_0 ne_a4_b10_0.symm
  have Z11 : n0 ≤ h11.size := Nat.le_trans Z10 (Nat.le_of_eq W11.size.symm)
  have K11 := Keep.wr K10 W11 (mw 1 rfl)
  refine g_goto X11 hx 247 (D d33_238) (by decide) (by decide) ?_
  refine g_aloadN X11 hx (D d33_247) rfl rfl ?_
  refine g_dup X11 hx (D d33_248) rfl ?_
  refine g_getF X11 hx hZ hown (Wd96 hw) e11 O_a1_11.2.2.2.1 (D d33_249) (fun T12 X12 e12 => ?_)
  refine g_iconst X12 hx (1 : Int32) (D d33_252) (by decide) ?_
  refine g_iadd X12 hx (D d33_253) ?_
  show Go p e below (T12.setTop (mkF m 254 #[vr a1, vr a2, vr a3, vr a4, vi (-1), vn, vn, vr b10_0, vn, vn, vn, vn, vi (-1), vu, vu] [(.int ((1 : Int32) + (1 : Int32))), (.ref a1)])) _
  rw [show ((1 : Int32) + (1 : Int32)) = (2 : Int32) from by decide]
  refine g_putF X12 hx hZ hown (Wd96 hw) e12 O_a1_11.2.2.2.1 O_a1_11.1 (Or.inl (Wd97 hw)) (Wd2 hw) fd_0 rfl rfl (D d33_254) (fun T13 h13 X13 e13 W13 => ?_)
  have N13 := Fr.snoc X13 N11 g_a1
  have O_a1_13 := R_MP_set_size hw W13 O_a1_11
  have O_a4_13 := R_ND_other W13 O_a4_11 ne_a1_a4.symm
  have O_b10_0_13 := R_ND_other W13 O_b10_0_11 ne_a1_b10_0.symm
  have Z13 : n0 ≤ h13.size := Nat.le_trans Z11 (Nat.le_of_eq W13.size.symm)
  have K13 := Keep.wr K11 W13 (mw 0 rfl)
  refine g_aloadN X13 hx (D d33_257) rfl rfl ?_
  refine g_aloadN X13 hx (D d33_258) rfl rfl ?_
  refine g_V X13 hx hZ hown (lk14 hw) (rm_refreshToRoot_20 hw a1 a4 h13 n0 Z13 ) e13 O_a1_13.1 (D d33_259) hml.symm rfl rfl (Nat.le_refl _) (by decide) (fun v14 T14 L14 X14 q14 => ?_)
  obtain ⟨rfl, M14, e14⟩ := q14
  have N14 := Fr.app N13 M14
  refine g_aloadN X14 hx (D d33_262) rfl rfl ?_
  refine g_aload X14 hx (D d33_263) rfl rfl ?_
  refine g_P X14 hx hZ hown (lk17 hw) (rm_balanceAfterInsert_21 hw a1 b10_0 a4 i1 a2 a3 a5 a6 i2 i3 h13 n0 Z13 O_a1_13 O_b10_0_13 O_a4_13 g_a4 hk0) e14 O_a1_13.1 (D d33_265) hml.symm rfl rfl (Nat.le_refl _) (by decide) (fun v15 T15 L15 X15 q15 => ?_)
  obtain ⟨rfl, M15, Kc15, Rk15_0⟩ := q15
  have N15 := Fr.app N14 M15
  have O_a1_15 := R_MP_keep O_a1_13 Kc15 (own_nin ne_a1_a4 nl)
  have O_b10_0_15 := R_ND_keep O_b10_0_13 Kc15 (own_nin ne_a4_b10_0.symm nl)
  have K15 := Keep.trans K13 Kc15 (own_memc (mw 1 rfl) own_memn)
  refine g_aloadN X15 hx (D d33_268) rfl rfl ?_
  refine g_dup X15 hx (D d33_269) rfl ?_
  refine g_getF X15 hx hZ hown (Wd98 hw) (rfl : T15.heap = T15.heap) O_a1_15.2.2.2.2 (D d33_270) (fun T16 X16 e16 => ?_)
  refine g_iconst X16 hx (1 : Int32) (D d33_273) (by decide) ?_
  refine g_iadd X16 hx (D d33_274) ?_
  refine g_putF X16 hx hZ hown (Wd98 hw) e16 O_a1_15.2.2.2.2 O_a1_15.1 (Or.inl (Wd99 hw)) (Wd2 hw) fd_0 rfl rfl (D d33_275) (fun T17 h17 X17 e17 W17 => ?_)
  have N17 := Fr.snoc X17 N15 g_a1
  have O_a1_17 := R_MP_set_modCount hw W17 O_a1_15
  have O_b10_0_17 := R_ND_other W17 O_b10_0_15 ne_a1_b10_0.symm
  have O_a4_17 := R_ND_other W17 Rk15_0 ne_a1_a4.symm
  have K17 := Keep.wr K15 W17 (mw 0 rfl)
  refine g_null X17 hx (D d33_278) ?_
  exact own_retA X17 hx hret hlk rfl rfl (D d33_279) (by decide) (by decide) (by rw [e17]; exact ⟨b10_0, rfl, N17, K17, sz_b10_0, O_a1_17, O_a4_17, O_b10_0_17⟩)
theorem pd_17 : parseMethodDescriptor "(Ljava/lang/Object;Ljava/lang/Object;)Lcom/example/rosewood/rosewood/RosewoodMap$Node;" = some ⟨[F3_, F3_], some F1_⟩ := by decide +kernel
theorem lk18 {Z : State} {a0 : Array Value} (hw : HW a0 Z) : LkPH "com/example/rosewood/rosewood/RosewoodMap" 36 Y19 7 B18 15 (some F1_) [(71, 122, 210, 0), (137, 195, 210, 0), (210, 212, 210, 0)] [F3_, F3_] (some F1_) a0 Z := ⟨(hw _ (List.mem_of_getElem? (i := 39) rfl)), (hw _ (List.mem_of_getElem? (i := 40) rfl)), (hw _ (List.mem_of_getElem? (i := 41) rfl)), (Wd2 hw), (hw _ (List.mem_of_getElem? (i := 42) rfl)), (Wd3 hw), by decide, pd_17⟩
theorem ef_7_RRR (m : MethodId) (x0 x1 x2 : Addr) : entryFrame m #[(.ref x0), (.ref x1), (.ref x2)] 4 = mkF m 0 #[vr x0, vr x1, vr x2, vu] [] := by first | (simp [entryFrame, mkF, argsToLocals, Value.category]; done) | rfl
theorem d7_0 : decode B19 0 = .ok (.aload_n 0, 1) := by decide +kernel
theorem d7_1 : decode B19 1 = .ok (.aload_n 1, 1) := by decide +kernel
theorem d7_2 : decode B19 2 = .ok (.aload_n 2, 1) := by decide +kernel
theorem d7_3 : decode B19 3 = .ok (.invokevirtual 36, 3) := by decide +kernel
theorem d7_6 : decode B19 6 = .ok (.astore_n 3, 1) := by decide +kernel
theorem d7_7 : decode B19 7 = .ok (.aload_n 3, 1) := by decide +kernel
theorem d7_8 : decode B19 8 = .ok (.ifnonnull 7, 3) := by decide +kernel
theorem d7_11 : decode B19 11 = .ok (.aconst_null, 1) := by decide +kernel
theorem d7_12 : decode B19 12 = .ok (.goto 9, 3) := by decide +kernel
theorem d7_21 : decode B19 21 = .ok (.areturn, 1) := by decide +kernel
theorem rm_put_10 (hw : HW a0 Z) (a1 a2 : Addr) (a3 a4 : Addr) (i1 i2 : Int32) (a5 a6 : Addr) (i3 : Int32) (h0 : Heap) (n0 : Nat) (Z0 : n0 ≤ h0.size) (O_a1 : R_MP Z h0 a1 .null (.ref a4) (.int 1) (.int i1)) (O_a2 : R_IN Z h0 a2 (.int i2)) (O_a4 : R_ND Z h0 a4 (.ref a5) (.ref a6) .null .null .null (.int 0)) (O_a5 : R_IN Z h0 a5 (.int i3)) (ne_a1_a4 : a1 ≠ a4) (g_a1 : n0 ≤ a1) (g_a4 : n0 ≤ a4) (hk0 : i2 < i3) :
    Ctr l Y20 B19 4 (some F3_) [] (rmk 5 1 6 79) Z #[(.ref a1), (.ref a2), (.ref a3)] h0 (fun v h L => ∃ f1, v = some .null ∧ Fr n0 L ∧ Keep h0 h [a1, a4] ∧ h0.size ≤ f1 ∧ R_MP Z h a1 .null (.ref a4) (.int 2) (.int (i1 + (1 : Int32))) ∧ R_ND Z h a4 (.ref a5) (.ref a6) (.ref f1) .null .null (.int 1) ∧ R_ND Z h f1 (.ref a2) (.ref a3) .null .null (.ref a4) (.int (-2147483648))) := by
  refine own_enter pn_2 (fun p e s m below meth c s₁ hx hby hml hown hnm hret hlk hZ X0 e0 => ?_)
  have N0 := Fr.nil n0
  have K0 := Keep.refl h0 [a1, a4]
  rw [ef_7_RRR m _ _ _]
  refine g_aloadN X0 hx (hb hby d7_0) rfl rfl ?_
  refine g_aloadN X0 hx (hb hby d7_1) rfl rfl ?_
  refine g_aloadN X0 hx (hb hby d7_2) rfl rfl ?_
  refine g_PH X0 hx hZ hown (lk18 hw) (rm_addIfAbsent_11 hw a1 a2 a3 a4 i1 i2 a5 a6 i3 h0 n0 Z0 O_a1 O_a2 O_a4 O_a5 ne_a1_a4 g_a1 g_a4 hk0) e0 O_a1.1 (hb hby d7_3) hml.symm rfl rfl (Nat.le_refl _) (by decide) (fun v1 T1 L1 X1 q1 => ?_)
  obtain ⟨b1_0, rfl, M1, Kc1, zb1_0, Rk1_0, Rk1_1, Rk1_2⟩ := q1
  have N1 := Fr.app N0 M1
  have sz_b1_0 : h0.size ≤ b1_0 := Nat.le_trans K0.1 zb1_0
  have K1 := Keep.trans K0 Kc1 (own_memc (mw 0 rfl) (own_memc (mw 1 rfl) own_memn))
  refine g_astoreN X1 hx #[vr a1, vr a2, vr a3, vn] (hb hby d7_6) rfl rfl ?_
  refine g_aloadN X1 hx (hb hby d7_7) rfl rfl ?_
  refine g_nonnullNo X1 hx (hb hby d7_8) ?_
  refine g_null X1 hx (hb hby d7_11) ?_
  refine g_goto X1 hx 21 (hb hby d7_12) (by decide) (by decide) ?_
  exact own_retA X1 hx hret hlk rfl rfl (hb hby d7_21) (by decide) (by decide) (by rw [(rfl : T1.heap = T1.heap)]; exact ⟨b1_0, rfl, N1, K1, sz_b1_0, Rk1_0, Rk1_1, Rk1_2⟩)
theorem pd_18 : parseMethodDescriptor "(Ljava/lang/Object;Ljava/lang/Object;)Ljava/lang/Object;" = some ⟨[F3_, F3_], some F3_⟩ := by decide +kernel
theorem lk19 {Z : State} {a0 : Array Value} (hw : HW a0 Z) : LkV "com/example/rosewood/rosewood/RosewoodMapFirstPinLaw" 17 Y20 "com/example/rosewood/rosewood/RosewoodMap" B19 4 (some F3_) [F3_, F3_] (some F3_) a0 Z := ⟨(hw _ (List.mem_of_getElem? (i := 34) rfl)), (hw _ (List.mem_of_getElem? (i := 35) rfl)), (hw _ (List.mem_of_getElem? (i := 37) rfl)), (hw _ (List.mem_of_getElem? (i := 36) rfl)), (hw _ (List.mem_of_getElem? (i := 38) rfl)), (Wd3 hw), by decide, pd_18⟩
theorem d11_9 : decode B7 9 = .ok (.iload_n 0, 1) := by decide +kernel
theorem d11_10 : decode B7 10 = .ok (.iload_n 1, 1) := by decide +kernel
theorem d11_11 : decode B7 11 = .ok (.if_icmp .ne 7, 3) := by decide +kernel
theorem d11_14 : decode B7 14 = .ok (.iconst 0, 1) := by decide +kernel
theorem d11_15 : decode B7 15 = .ok (.goto 4, 3) := by decide +kernel
theorem rm_compare_29 (hw : HW a0 Z) (i1 i2 : Int32) (h0 : Heap) (n0 : Nat) (Z0 : n0 ≤ h0.size) (hk0 : ¬ (i1 < i2)) (hk1 : i1 = i2) :
    Ctr l Y7 B7 2 (some FieldType.int) [] (rmk 0 0 0 0) Z #[(.int i1), (.int i2)] h0 (fun v h L => v = some (.int 0) ∧ Fr n0 L ∧ h = h0) := by
  refine own_enter pn_1 (fun p e s m below meth c s₁ hx hby hml hown hnm hret hlk hZ X0 e0 => ?_)
  have N0 := Fr.nil n0
  have K0 := Keep.refl h0 []
  rw [ef_11_II m _ _]
  refine g_iloadN X0 hx (hb hby d11_0) rfl ?_
  refine g_iloadN X0 hx (hb hby d11_1) rfl ?_
  have c2_1 : ¬ (i1 < i2) := hk0
  refine g_icmpYes X0 hx 9 (hb hby d11_2) (flt c2_1).2.1 (by decide) (by decide) ?_
  refine g_iloadN X0 hx (hb hby d11_9) rfl ?_
  refine g_iloadN X0 hx (hb hby d11_10) rfl ?_
  have c11_2 : i1 = i2 := hk1
  refine g_icmpNo X0 hx (hb hby d11_11) (teq c11_2).2 ?_
  refine g_iconst X0 hx (0 : Int32) (hb hby d11_14) (by decide) ?_
  refine g_goto X0 hx 19 (hb hby d11_15) (by decide) (by decide) ?_
  exact own_retI X0 hx hret hlk (hb hby d11_19) (by decide) (by decide) ⟨rfl, N0, e0⟩
theorem rm_compareTo_28 (hw : HW a0 Z) (a1 a2 : Addr) (i1 i2 : Int32) (h0 : Heap) (n0 : Nat) (Z0 : n0 ≤ h0.size) (O_a1 : R_IN Z h0 a1 (.int i1)) (O_a2 : R_IN Z h0 a2 (.int i2)) (hk0 : ¬ (i1 < i2)) (hk1 : i1 = i2) :
    Ctr l Y8 B8 2 (some FieldType.int) [] (rmk 1 0 0 13) Z #[(.ref a1), (.ref a2)] h0 (fun v h L => v = some (.int 0) ∧ Fr n0 L ∧ h = h0) := by
  refine own_enter pn_1 (fun p e s m below meth c s₁ hx hby hml hown hnm hret hlk hZ X0 e0 => ?_)
  have N0 := Fr.nil n0
  have K0 := Keep.refl h0 []
  rw [ef_10_RR m _ _]
  refine g_aloadN X0 hx (hb hby d10_0) rfl rfl ?_
  refine g_getF X0 hx hZ hown (Wd65 hw) e0 O_a1.2 (hb hby d10_1) (fun T1 X1 e1 => ?_)
  refine g_aloadN X1 hx (hb hby d10_4) rfl rfl ?_
  refine g_getF X1 hx hZ hown (Wd65 hw) e1 O_a2.2 (hb hby d10_5) (fun T2 X2 e2 => ?_)
  refine g_S X2 hx hZ hown (lk7 hw) (rm_compare_29 hw i1 i2 h0 n0 Z0 hk0 hk1) e2 (hb hby d10_8) hml.symm rfl rfl (Nat.le_refl _) (by decide) (fun v3 T3 L3 X3 q3 => ?_)
  obtain ⟨rfl, M3, e3⟩ := q3
  have N3 := Fr.app N0 M3
  exact own_retI X3 hx hret hlk (hb hby d10_11) (by decide) (by decide) ⟨rfl, N3, e3⟩
theorem rm_compareTo_27 (hw : HW a0 Z) (a1 a2 : Addr) (i1 i2 : Int32) (h0 : Heap) (n0 : Nat) (Z0 : n0 ≤ h0.size) (O_a1 : R_IN Z h0 a1 (.int i1)) (O_a2 : R_IN Z h0 a2 (.int i2)) (hk0 : ¬ (i1 < i2)) (hk1 : i1 = i2) :
    Ctr l Y9 B9 2 (some FieldType.int) [] (rmk 2 0 0 26) Z #[(.ref a1), (.ref a2)] h0 (fun v h L => v = some (.int 0) ∧ Fr n0 L ∧ h = h0) := by
  refine own_enter pn_1 (fun p e s m below meth c s₁ hx hby hml hown hnm hret hlk hZ X0 e0 => ?_)
  have N0 := Fr.nil n0
  have K0 := Keep.refl h0 []
  rw [ef_9_RR m _ _]
  refine g_aloadN X0 hx (hb hby d9_0) rfl rfl ?_
  refine g_aloadN X0 hx (hb hby d9_1) rfl rfl ?_
  refine g_cast X0 hx hZ hown (Wd58 hw) e0 (Ins.self O_a2.1) (hb hby d9_2) (fun T1 X1 e1 => ?_)
  refine g_V X1 hx hZ hown (lk8 hw) (rm_compareTo_28 hw a1 a2 i1 i2 h0 n0 Z0 O_a1 O_a2 hk0 hk1) e1 O_a1.1 (hb hby d9_5) hml.symm rfl rfl (Nat.le_refl _) (by decide) (fun v2 T2 L2 X2 q2 => ?_)
  obtain ⟨rfl, M2, e2⟩ := q2
  have N2 := Fr.app N0 M2
  exact own_retI X2 hx hret hlk (hb hby d9_8) (by decide) (by decide) ⟨rfl, N2, e2⟩
theorem rm_compare_26 (hw : HW a0 Z) (a1 a2 : Addr) (a3 a4 : Addr) (i1 i2 i3 : Int32) (h0 : Heap) (n0 : Nat) (Z0 : n0 ≤ h0.size) (O_a1 : R_MP Z h0 a1 .null (.ref a4) (.int 1) (.int i1)) (O_a2 : R_IN Z h0 a2 (.int i2)) (O_a3 : R_IN Z h0 a3 (.int i3)) (hk0 : ¬ (i2 < i3)) (hk1 : i2 = i3) :
    Ctr l Y11 B10 3 (some FieldType.int) [] (rmk 3 0 0 39) Z #[(.ref a1), (.ref a2), (.ref a3)] h0 (fun v h L => v = some (.int 0) ∧ Fr n0 L ∧ h = h0) := by
  refine own_enter pn_2 (fun p e s m below meth c s₁ hx hby hml hown hnm hret hlk hZ X0 e0 => ?_)
  have N0 := Fr.nil n0
  have K0 := Keep.refl h0 []
  rw [ef_8_RRR m _ _ _]
  refine g_aloadN X0 hx (hb hby d8_0) rfl rfl ?_
  refine g_getF X0 hx hZ hown (Wd18 hw) e0 O_a1.2.1 (hb hby d8_1) (fun T1 X1 e1 => ?_)
  refine g_nonnullNo X1 hx (hb hby d8_4) ?_
  refine g_aloadN X1 hx (hb hby d8_7) rfl rfl ?_
  refine g_cast X1 hx hZ hown (Wd48 hw) e1 (Ins.of_exa O_a2.1 (Wd49 hw)) (hb hby d8_8) (fun T2 X2 e2 => ?_)
  refine g_aloadN X2 hx (hb hby d8_11) rfl rfl ?_
  refine g_F X2 hx hZ hown (lk9 hw) (mvT hZ (Wd52 hw)) (rm_compareTo_27 hw a2 a3 i2 i3 h0 n0 Z0 O_a2 O_a3 hk0 hk1) e2 O_a2.1 (hb hby d8_12) hml.symm rfl rfl (Nat.le_refl _) (by decide) (fun v3 T3 L3 X3 q3 => ?_)
  obtain ⟨rfl, M3, e3⟩ := q3
  have N3 := Fr.app N0 M3
  refine g_goto X3 hx 31 (hb hby d8_17) (by decide) (by decide) ?_
  exact own_retI X3 hx hret hlk (hb hby d8_31) (by decide) (by decide) ⟨rfl, N3, e3⟩
theorem ef_28_nII (m : MethodId) (x1 x2 : Int32) : entryFrame m #[.null, (.int x1), (.int x2)] 3 = mkF m 0 #[vn, vi x1, vi x2] [] := by first | (simp [entryFrame, mkF, argsToLocals, Value.category]; done) | rfl
theorem d28_0 : decode B20 0 = .ok (.aload_n 0, 1) := by decide +kernel
theorem d28_1 : decode B20 1 = .ok (.ifnonnull 4, 3) := by decide +kernel
theorem d28_4 : decode B20 4 = .ok (.return_, 1) := by decide +kernel
theorem rm_countPlace_30 (hw : HW a0 Z)  (h0 : Heap) (n0 : Nat) (Z0 : n0 ≤ h0.size)  :
    Ctr l Y21 B20 3 none [] (rmk 0 0 0 0) Z #[.null, (.int 0), (.int (-1))] h0 (fun v h L => v = none ∧ Fr n0 L ∧ h = h0) := by
  refine own_enter pn_2 (fun p e s m below meth c s₁ hx hby hml hown hnm hret hlk hZ X0 e0 => ?_)
  have N0 := Fr.nil n0
  have K0 := Keep.refl h0 []
  rw [ef_28_nII m  _ _]
  refine g_aloadN X0 hx (hb hby d28_0) rfl rfl ?_
  refine g_nonnullNo X0 hx (hb hby d28_1) ?_
  exact own_retV X0 hx hret hlk (hb hby d28_4) (by decide) (by decide) ⟨rfl, N0, e0⟩
theorem pd_19 : parseMethodDescriptor "(Lcom/example/rosewood/rosewood/RosewoodMap$Node;II)V" = some ⟨[F1_, FieldType.int, FieldType.int], none⟩ := by decide +kernel
theorem lk20 {Z : State} {a0 : Array Value} (hw : HW a0 Z) : LkS "com/example/rosewood/rosewood/RosewoodMap" 225 Y21 B20 3 none [F1_, FieldType.int, FieldType.int] none a0 Z := ⟨(hw _ (List.mem_of_getElem? (i := 164) rfl)), (hw _ (List.mem_of_getElem? (i := 165) rfl)), (Wd3 hw), (hw _ (List.mem_of_getElem? (i := 166) rfl)), by decide, pd_19⟩
theorem d33_118 : decode B18 118 = .ok (.aload 5, 2) := by decide +kernel
theorem d33_120 : decode B18 120 = .ok (.astore 13, 2) := by decide +kernel
theorem d33_122 : decode B18 122 = .ok (.aload 7, 2) := by decide +kernel
theorem d33_124 : decode B18 124 = .ok (.ifnonnull 10, 3) := by decide +kernel
theorem d33_127 : decode B18 127 = .ok (.aload_n 3, 1) := by decide +kernel
theorem d33_128 : decode B18 128 = .ok (.iload 4, 2) := by decide +kernel
theorem d33_130 : decode B18 130 = .ok (.iconst (-1), 1) := by decide +kernel
theorem d33_131 : decode B18 131 = .ok (.invokestatic 225, 3) := by decide +kernel
theorem d33_134 : decode B18 134 = .ok (.aload 13, 2) := by decide +kernel
theorem d33_136 : decode B18 136 = .ok (.areturn, 1) := by decide +kernel
theorem rm_addIfAbsent_25 (hw : HW a0 Z) (a1 a2 : Addr) (a3 a4 : Addr) (i1 i2 : Int32) (a5 a6 : Addr) (i3 : Int32) (h0 : Heap) (n0 : Nat) (Z0 : n0 ≤ h0.size) (O_a1 : R_MP Z h0 a1 .null (.ref a4) (.int 1) (.int i1)) (O_a2 : R_IN Z h0 a2 (.int i2)) (O_a4 : R_ND Z h0 a4 (.ref a5) (.ref a6) .null .null .null (.int 0)) (O_a5 : R_IN Z h0 a5 (.int i3)) (hk0 : ¬ (i2 < i3)) (hk1 : i2 = i3) :
    CtrH l Y19 B18 15 (some F1_) [(71, 122, 210, 0), (137, 195, 210, 0), (210, 212, 210, 0)] (rmk 4 0 0 53) Z #[(.ref a1), (.ref a2), (.ref a3)] h0 (fun v h L => v = some (.ref a4) ∧ Fr n0 L ∧ h = h0) := by
  refine own_enterH pn_2 (fun p e s m below meth c s₁ hx hby hml hown hnm hret hlk hZ X0 e0 => ?_)
  have D {q : Nat} {r} (z : decode B18 q = r) : decode c.code q = r := hb hby z
  have N0 := Fr.nil n0
  have K0 := Keep.refl h0 []
  rw [ef_33_RRR m _ _ _]
  refine g_aloadN X0 hx (D d33_0) rfl rfl ?_
  refine g_getF X0 hx hZ hown (Wd25 hw) e0 O_a1.2.2.1 (D d33_1) (fun T1 X1 e1 => ?_)
  refine g_nonnullYes X1 hx 50 (D d33_4) (by decide) (by decide) ?_
  refine g_null X1 hx (D d33_50) ?_
  refine g_astoreN X1 hx #[vr a1, vr a2, vr a3, vn, vu, vu, vu, vu, vu, vu, vu, vu, vu, vu, vu] (D d33_51) rfl rfl ?_
  refine g_iconst X1 hx (0 : Int32) (D d33_52) (by decide) ?_
  refine g_istore X1 hx #[vr a1, vr a2, vr a3, vn, vi 0, vu, vu, vu, vu, vu, vu, vu, vu, vu, vu] (D d33_53) rfl ?_
  refine g_aloadN X1 hx (D d33_55) rfl rfl ?_
  refine g_getF X1 hx hZ hown (Wd25 hw) e1 O_a1.2.2.1 (D d33_56) (fun T2 X2 e2 => ?_)
  refine g_astore X2 hx #[vr a1, vr a2, vr a3, vn, vi 0, vr a4, vu, vu, vu, vu, vu, vu, vu, vu, vu] (D d33_59) rfl rfl ?_
  refine g_aload X2 hx (D d33_61) rfl rfl ?_
  refine g_getF X2 hx hZ hown (Wd100 hw) e2 O_a4.2.1 (D d33_63) (fun T3 X3 e3 => ?_)
  refine g_astore X3 hx #[vr a1, vr a2, vr a3, vn, vi 0, vr a4, vr a5, vu, vu, vu, vu, vu, vu, vu, vu] (D d33_66) rfl rfl ?_
  refine g_null X3 hx (D d33_68) ?_
  refine g_astore X3 hx #[vr a1, vr a2, vr a3, vn, vi 0, vr a4, vr a5, vn, vu, vu, vu, vu, vu, vu, vu] (D d33_69) rfl rfl ?_
  refine g_aload X3 hx (D d33_71) rfl rfl ?_
  refine g_nullNo X3 hx (D d33_73) ?_
  refine g_aload X3 hx (D d33_76) rfl rfl ?_
  refine g_getF X3 hx hZ hown (Wd101 hw) e3 O_a4.2.2.2.1 (D d33_78) (fun T4 X4 e4 => ?_)
  refine g_astore X4 hx #[vr a1, vr a2, vr a3, vn, vi 0, vr a4, vr a5, vn, vn, vu, vu, vu, vu, vu, vu] (D d33_81) rfl rfl ?_
  refine g_aload X4 hx (D d33_83) rfl rfl ?_
  refine g_getF X4 hx hZ hown (Wd103 hw) e4 O_a4.2.2.2.2.1 (D d33_85) (fun T5 X5 e5 => ?_)
  refine g_astore X5 hx #[vr a1, vr a2, vr a3, vn, vi 0, vr a4, vr a5, vn, vn, vn, vu, vu, vu, vu, vu] (D d33_88) rfl rfl ?_
  refine g_aload X5 hx (D d33_90) rfl rfl ?_
  refine g_S X5 hx hZ hown (lk6 hw) (rm_keyOf_12 hw  h0 n0 Z0 ) e5 (D d33_92) hml.symm rfl rfl (Nat.le_refl _) (by decide) (fun v6 T6 L6 X6 q6 => ?_)
  obtain ⟨rfl, M6, e6⟩ := q6
  have N6 := Fr.app N0 M6
  refine g_astore X6 hx #[vr a1, vr a2, vr a3, vn, vi 0, vr a4, vr a5, vn, vn, vn, vn, vu, vu, vu, vu] (D d33_95) rfl rfl ?_
  refine g_aload X6 hx (D d33_97) rfl rfl ?_
  refine g_S X6 hx hZ hown (lk6 hw) (rm_keyOf_12 hw  h0 n0 Z0 ) e6 (D d33_99) hml.symm rfl rfl (Nat.le_refl _) (by decide) (fun v7 T7 L7 X7 q7 => ?_)
  obtain ⟨rfl, M7, e7⟩ := q7
  have N7 := Fr.app N6 M7
  refine g_astore X7 hx #[vr a1, vr a2, vr a3, vn, vi 0, vr a4, vr a5, vn, vn, vn, vn, vn, vu, vu, vu] (D d33_102) rfl rfl ?_
  refine g_aloadN X7 hx (D d33_104) rfl rfl ?_
  refine g_aloadN X7 hx (D d33_105) rfl rfl ?_
  refine g_aload X7 hx (D d33_106) rfl rfl ?_
  refine g_V X7 hx hZ hown (lk10 hw) (rm_compare_26 hw a1 a2 a5 a4 i1 i2 i3 h0 n0 Z0 O_a1 O_a2 O_a5 hk0 hk1) e7 O_a1.1 (D d33_108) hml.symm rfl rfl (Nat.le_refl _) (by decide) (fun v8 T8 L8 X8 q8 => ?_)
  obtain ⟨rfl, M8, e8⟩ := q8
  have N8 := Fr.app N7 M8
  refine g_istore X8 hx #[vr a1, vr a2, vr a3, vn, vi 0, vr a4, vr a5, vn, vn, vn, vn, vn, vi 0, vu, vu] (D d33_111) rfl ?_
  refine g_iload X8 hx (D d33_113) rfl ?_
  refine g_ifNo X8 hx (D d33_115) ((if0 _ _).trans (teq ((by decide) : (0 : Int32) = (0 : Int32))).2) ?_
  refine g_aload X8 hx (D d33_118) rfl rfl ?_
  refine g_astore X8 hx #[vr a1, vr a2, vr a3, vn, vi 0, vr a4, vr a5, vn, vn, vn, vn, vn, vi 0, vr a4, vu] (D d33_120) rfl rfl ?_
  refine g_aload X8 hx (D d33_122) rfl rfl ?_
  refine g_nonnullNo X8 hx (D d33_124) ?_
  refine g_aloadN X8 hx (D d33_127) rfl rfl ?_
  refine g_iload X8 hx (D d33_128) rfl ?_
  refine g_iconst X8 hx (-1 : Int32) (D d33_130) (by decide) ?_
  refine g_S X8 hx hZ hown (lk20 hw) (rm_countPlace_30 hw  h0 n0 Z0 ) e8 (D d33_131) hml.symm rfl rfl (Nat.le_refl _) (by decide) (fun v9 T9 L9 X9 q9 => ?_)
  obtain ⟨rfl, M9, e9⟩ := q9
  have N9 := Fr.app N8 M9
  refine g_aload X9 hx (D d33_134) rfl rfl ?_
  exact own_retA X9 hx hret hlk rfl rfl (D d33_136) (by decide) (by decide) ⟨rfl, N9, e9⟩
theorem ef_31_RR (m : MethodId) (x0 x1 : Addr) : entryFrame m #[(.ref x0), (.ref x1)] 3 = mkF m 0 #[vr x0, vr x1, vu] [] := by first | (simp [entryFrame, mkF, argsToLocals, Value.category]; done) | rfl
theorem d31_0 : decode B21 0 = .ok (.aload_n 0, 1) := by decide +kernel
theorem d31_1 : decode B21 1 = .ok (.getfield 20, 3) := by decide +kernel
theorem d31_4 : decode B21 4 = .ok (.astore_n 2, 1) := by decide +kernel
theorem d31_5 : decode B21 5 = .ok (.aload_n 0, 1) := by decide +kernel
theorem d31_6 : decode B21 6 = .ok (.aload_n 1, 1) := by decide +kernel
theorem d31_7 : decode B21 7 = .ok (.putfield 20, 3) := by decide +kernel
theorem d31_10 : decode B21 10 = .ok (.aload_n 2, 1) := by decide +kernel
theorem d31_11 : decode B21 11 = .ok (.areturn, 1) := by decide +kernel
theorem rm_setValue_32 (hw : HW a0 Z) (a1 a2 : Addr) (a3 a4 : Addr) (h0 : Heap) (n0 : Nat) (Z0 : n0 ≤ h0.size) (O_a1 : R_ND Z h0 a1 (.ref a3) (.ref a4) .null .null .null (.int 0)) (g_a1 : n0 ≤ a1) :
    Ctr l Y22 B21 3 (some F3_) [] (rmk 0 0 0 0) Z #[(.ref a1), (.ref a2)] h0 (fun v h L => v = some (.ref a4) ∧ Fr n0 L ∧ Keep h0 h [a1] ∧ R_ND Z h a1 (.ref a3) (.ref a2) .null .null .null (.int 0)) := by
  refine own_enter pn_3 (fun p e s m below meth c s₁ hx hby hml hown hnm hret hlk hZ X0 e0 => ?_)
  have N0 := Fr.nil n0
  have K0 := Keep.refl h0 [a1]
  rw [ef_31_RR m _ _]
  refine g_aloadN X0 hx (hb hby d31_0) rfl rfl ?_
  refine g_getF X0 hx hZ hown (Wd87 hw) e0 O_a1.2.2.1 (hb hby d31_1) (fun T1 X1 e1 => ?_)
  refine g_astoreN X1 hx #[vr a1, vr a2, vr a4] (hb hby d31_4) rfl rfl ?_
  refine g_aloadN X1 hx (hb hby d31_5) rfl rfl ?_
  refine g_aloadN X1 hx (hb hby d31_6) rfl rfl ?_
  refine g_putF X1 hx hZ hown (Wd87 hw) e1 O_a1.2.2.1 O_a1.1 (Or.inl (Wd88 hw)) (Wd76 hw) fd_1 rfl rfl (hb hby d31_7) (fun T2 h2 X2 e2 W2 => ?_)
  have N2 := Fr.snoc X2 N0 g_a1
  have O_a1_2 := R_ND_set_value hw W2 O_a1
  have K2 := Keep.wr K0 W2 (mw 0 rfl)
  refine g_aloadN X2 hx (hb hby d31_10) rfl rfl ?_
  exact own_retA X2 hx hret hlk rfl rfl (hb hby d31_11) (by decide) (by decide) (by rw [e2]; exact ⟨rfl, N2, K2, O_a1_2⟩)
theorem pd_20 : parseMethodDescriptor "(Ljava/lang/Object;)Ljava/lang/Object;" = some ⟨[F3_], some F3_⟩ := by decide +kernel
theorem lk21 {Z : State} {a0 : Array Value} (hw : HW a0 Z) : LkV "com/example/rosewood/rosewood/RosewoodMap" 202 Y22 "com/example/rosewood/rosewood/RosewoodMap$Node" B21 3 (some F3_) [F3_] (some F3_) a0 Z := ⟨(hw _ (List.mem_of_getElem? (i := 175) rfl)), (hw _ (List.mem_of_getElem? (i := 176) rfl)), (hw _ (List.mem_of_getElem? (i := 178) rfl)), (hw _ (List.mem_of_getElem? (i := 177) rfl)), (hw _ (List.mem_of_getElem? (i := 179) rfl)), (Wd77 hw), by decide, pd_20⟩
theorem ef_30_RRR (m : MethodId) (x0 x1 x2 : Addr) : entryFrame m #[(.ref x0), (.ref x1), (.ref x2)] 3 = mkF m 0 #[vr x0, vr x1, vr x2] [] := by first | (simp [entryFrame, mkF, argsToLocals, Value.category]; done) | rfl
theorem d30_0 : decode B22 0 = .ok (.aload_n 1, 1) := by decide +kernel
theorem d30_1 : decode B22 1 = .ok (.aload_n 2, 1) := by decide +kernel
theorem d30_2 : decode B22 2 = .ok (.invokevirtual 202, 3) := by decide +kernel
theorem d30_5 : decode B22 5 = .ok (.areturn, 1) := by decide +kernel
theorem rm_replaceValue_31 (hw : HW a0 Z) (a1 a2 : Addr) (a3 a4 a5 : Addr) (h0 : Heap) (n0 : Nat) (Z0 : n0 ≤ h0.size) (O_a2 : R_ND Z h0 a2 (.ref a4) (.ref a5) .null .null .null (.int 0)) (g_a2 : n0 ≤ a2) :
    Ctr l Y23 B22 3 (some F3_) [] (rmk 1 0 0 14) Z #[(.ref a1), (.ref a2), (.ref a3)] h0 (fun v h L => v = some (.ref a5) ∧ Fr n0 L ∧ Keep h0 h [a2] ∧ R_ND Z h a2 (.ref a4) (.ref a3) .null .null .null (.int 0)) := by
  refine own_enter pn_2 (fun p e s m below meth c s₁ hx hby hml hown hnm hret hlk hZ X0 e0 => ?_)
  have N0 := Fr.nil n0
  have K0 := Keep.refl h0 [a2]
  rw [ef_30_RRR m _ _ _]
  refine g_aloadN X0 hx (hb hby d30_0) rfl rfl ?_
  refine g_aloadN X0 hx (hb hby d30_1) rfl rfl ?_
  refine g_V X0 hx hZ hown (lk21 hw) (rm_setValue_32 hw a2 a3 a4 a5 h0 n0 Z0 O_a2 g_a2) e0 O_a2.1 (hb hby d30_2) hml.symm rfl rfl (Nat.le_refl _) (by decide) (fun v1 T1 L1 X1 q1 => ?_)
  obtain ⟨rfl, M1, Kc1, Rk1_0⟩ := q1
  have N1 := Fr.app N0 M1
  have K1 := Keep.trans K0 Kc1 (own_memc (mw 0 rfl) own_memn)
  exact own_retA X1 hx hret hlk rfl rfl (hb hby d30_5) (by decide) (by decide) (by rw [(rfl : T1.heap = T1.heap)]; exact ⟨rfl, N1, K1, Rk1_0⟩)
theorem pd_21 : parseMethodDescriptor "(Lcom/example/rosewood/rosewood/RosewoodMap$Node;Ljava/lang/Object;)Ljava/lang/Object;" = some ⟨[F1_, F3_], some F3_⟩ := by decide +kernel
theorem lk22 {Z : State} {a0 : Array Value} (hw : HW a0 Z) : LkV "com/example/rosewood/rosewood/RosewoodMap" 40 Y23 "com/example/rosewood/rosewood/RosewoodMap" B22 3 (some F3_) [F1_, F3_] (some F3_) a0 Z := ⟨(hw _ (List.mem_of_getElem? (i := 170) rfl)), (hw _ (List.mem_of_getElem? (i := 171) rfl)), (hw _ (List.mem_of_getElem? (i := 173) rfl)), (hw _ (List.mem_of_getElem? (i := 172) rfl)), (hw _ (List.mem_of_getElem? (i := 174) rfl)), (Wd3 hw), by decide, pd_21⟩
theorem d7_15 : decode B19 15 = .ok (.aload_n 0, 1) := by decide +kernel
theorem d7_16 : decode B19 16 = .ok (.aload_n 3, 1) := by decide +kernel
theorem d7_17 : decode B19 17 = .ok (.aload_n 2, 1) := by decide +kernel
theorem d7_18 : decode B19 18 = .ok (.invokevirtual 40, 3) := by decide +kernel
theorem rm_put_24 (hw : HW a0 Z) (a1 a2 : Addr) (a3 a4 : Addr) (i1 i2 : Int32) (a5 a6 : Addr) (i3 : Int32) (h0 : Heap) (n0 : Nat) (Z0 : n0 ≤ h0.size) (O_a1 : R_MP Z h0 a1 .null (.ref a4) (.int 1) (.int i1)) (O_a2 : R_IN Z h0 a2 (.int i2)) (O_a4 : R_ND Z h0 a4 (.ref a5) (.ref a6) .null .null .null (.int 0)) (O_a5 : R_IN Z h0 a5 (.int i3)) (g_a4 : n0 ≤ a4) (hk0 : ¬ (i2 < i3)) (hk1 : i2 = i3) :
    Ctr l Y20 B19 4 (some F3_) [] (rmk 5 0 0 79) Z #[(.ref a1), (.ref a2), (.ref a3)] h0 (fun v h L => v = some (.ref a6) ∧ Fr n0 L ∧ Keep h0 h [a4] ∧ R_ND Z h a4 (.ref a5) (.ref a3) .null .null .null (.int 0)) := by
  refine own_enter pn_2 (fun p e s m below meth c s₁ hx hby hml hown hnm hret hlk hZ X0 e0 => ?_)
  have N0 := Fr.nil n0
  have K0 := Keep.refl h0 [a4]
  rw [ef_7_RRR m _ _ _]
  refine g_aloadN X0 hx (hb hby d7_0) rfl rfl ?_
  refine g_aloadN X0 hx (hb hby d7_1) rfl rfl ?_
  refine g_aloadN X0 hx (hb hby d7_2) rfl rfl ?_
  refine g_PH X0 hx hZ hown (lk18 hw) (rm_addIfAbsent_25 hw a1 a2 a3 a4 i1 i2 a5 a6 i3 h0 n0 Z0 O_a1 O_a2 O_a4 O_a5 hk0 hk1) e0 O_a1.1 (hb hby d7_3) hml.symm rfl rfl (Nat.le_refl _) (by decide) (fun v1 T1 L1 X1 q1 => ?_)
  obtain ⟨rfl, M1, e1⟩ := q1
  have N1 := Fr.app N0 M1
  refine g_astoreN X1 hx #[vr a1, vr a2, vr a3, vr a4] (hb hby d7_6) rfl rfl ?_
  refine g_aloadN X1 hx (hb hby d7_7) rfl rfl ?_
  refine g_nonnullYes X1 hx 15 (hb hby d7_8) (by decide) (by decide) ?_
  refine g_aloadN X1 hx (hb hby d7_15) rfl rfl ?_
  refine g_aloadN X1 hx (hb hby d7_16) rfl rfl ?_
  refine g_aloadN X1 hx (hb hby d7_17) rfl rfl ?_
  refine g_V X1 hx hZ hown (lk22 hw) (rm_replaceValue_31 hw a1 a4 a3 a5 a6 h0 n0 Z0 O_a4 g_a4) e1 O_a1.1 (hb hby d7_18) hml.symm rfl rfl (Nat.le_refl _) (by decide) (fun v2 T2 L2 X2 q2 => ?_)
  obtain ⟨rfl, M2, Kc2, Rk2_0⟩ := q2
  have N2 := Fr.app N1 M2
  have K2 := Keep.trans K0 Kc2 (own_memc (mw 0 rfl) own_memn)
  exact own_retA X2 hx hret hlk rfl rfl (hb hby d7_21) (by decide) (by decide) (by rw [(rfl : T2.heap = T2.heap)]; exact ⟨rfl, N2, K2, Rk2_0⟩)
theorem d11_18 : decode B7 18 = .ok (.iconst 1, 1) := by decide +kernel
theorem rm_compare_38 (hw : HW a0 Z) (i1 i2 : Int32) (h0 : Heap) (n0 : Nat) (Z0 : n0 ≤ h0.size) (hk0 : ¬ (i1 < i2)) (hk1 : ¬ (i1 = i2)) :
    Ctr l Y7 B7 2 (some FieldType.int) [] (rmk 0 0 0 0) Z #[(.int i1), (.int i2)] h0 (fun v h L => v = some (.int 1) ∧ Fr n0 L ∧ h = h0) := by
  refine own_enter pn_1 (fun p e s m below meth c s₁ hx hby hml hown hnm hret hlk hZ X0 e0 => ?_)
  have N0 := Fr.nil n0
  have K0 := Keep.refl h0 []
  rw [ef_11_II m _ _]
  refine g_iloadN X0 hx (hb hby d11_0) rfl ?_
  refine g_iloadN X0 hx (hb hby d11_1) rfl ?_
  have c2_1 : ¬ (i1 < i2) := hk0
  refine g_icmpYes X0 hx 9 (hb hby d11_2) (flt c2_1).2.1 (by decide) (by decide) ?_
  refine g_iloadN X0 hx (hb hby d11_9) rfl ?_
  refine g_iloadN X0 hx (hb hby d11_10) rfl ?_
  have c11_2 : ¬ (i1 = i2) := hk1
  refine g_icmpYes X0 hx 18 (hb hby d11_11) (feq c11_2).2 (by decide) (by decide) ?_
  refine g_iconst X0 hx (1 : Int32) (hb hby d11_18) (by decide) ?_
  exact own_retI X0 hx hret hlk (hb hby d11_19) (by decide) (by decide) ⟨rfl, N0, e0⟩
theorem rm_compareTo_37 (hw : HW a0 Z) (a1 a2 : Addr) (i1 i2 : Int32) (h0 : Heap) (n0 : Nat) (Z0 : n0 ≤ h0.size) (O_a1 : R_IN Z h0 a1 (.int i1)) (O_a2 : R_IN Z h0 a2 (.int i2)) (hk0 : ¬ (i1 < i2)) (hk1 : ¬ (i1 = i2)) :
    Ctr l Y8 B8 2 (some FieldType.int) [] (rmk 1 0 0 13) Z #[(.ref a1), (.ref a2)] h0 (fun v h L => v = some (.int 1) ∧ Fr n0 L ∧ h = h0) := by
  refine own_enter pn_1 (fun p e s m below meth c s₁ hx hby hml hown hnm hret hlk hZ X0 e0 => ?_)
  have N0 := Fr.nil n0
  have K0 := Keep.refl h0 []
  rw [ef_10_RR m _ _]
  refine g_aloadN X0 hx (hb hby d10_0) rfl rfl ?_
  refine g_getF X0 hx hZ hown (Wd65 hw) e0 O_a1.2 (hb hby d10_1) (fun T1 X1 e1 => ?_)
  refine g_aloadN X1 hx (hb hby d10_4) rfl rfl ?_
  refine g_getF X1 hx hZ hown (Wd65 hw) e1 O_a2.2 (hb hby d10_5) (fun T2 X2 e2 => ?_)
  refine g_S X2 hx hZ hown (lk7 hw) (rm_compare_38 hw i1 i2 h0 n0 Z0 hk0 hk1) e2 (hb hby d10_8) hml.symm rfl rfl (Nat.le_refl _) (by decide) (fun v3 T3 L3 X3 q3 => ?_)
  obtain ⟨rfl, M3, e3⟩ := q3
  have N3 := Fr.app N0 M3
  exact own_retI X3 hx hret hlk (hb hby d10_11) (by decide) (by decide) ⟨rfl, N3, e3⟩
theorem rm_compareTo_36 (hw : HW a0 Z) (a1 a2 : Addr) (i1 i2 : Int32) (h0 : Heap) (n0 : Nat) (Z0 : n0 ≤ h0.size) (O_a1 : R_IN Z h0 a1 (.int i1)) (O_a2 : R_IN Z h0 a2 (.int i2)) (hk0 : ¬ (i1 < i2)) (hk1 : ¬ (i1 = i2)) :
    Ctr l Y9 B9 2 (some FieldType.int) [] (rmk 2 0 0 26) Z #[(.ref a1), (.ref a2)] h0 (fun v h L => v = some (.int 1) ∧ Fr n0 L ∧ h = h0) := by
  refine own_enter pn_1 (fun p e s m below meth c s₁ hx hby hml hown hnm hret hlk hZ X0 e0 => ?_)
  have N0 := Fr.nil n0
  have K0 := Keep.refl h0 []
  rw [ef_9_RR m _ _]
  refine g_aloadN X0 hx (hb hby d9_0) rfl rfl ?_
  refine g_aloadN X0 hx (hb hby d9_1) rfl rfl ?_
  refine g_cast X0 hx hZ hown (Wd58 hw) e0 (Ins.self O_a2.1) (hb hby d9_2) (fun T1 X1 e1 => ?_)
  refine g_V X1 hx hZ hown (lk8 hw) (rm_compareTo_37 hw a1 a2 i1 i2 h0 n0 Z0 O_a1 O_a2 hk0 hk1) e1 O_a1.1 (hb hby d9_5) hml.symm rfl rfl (Nat.le_refl _) (by decide) (fun v2 T2 L2 X2 q2 => ?_)
  obtain ⟨rfl, M2, e2⟩ := q2
  have N2 := Fr.app N0 M2
  exact own_retI X2 hx hret hlk (hb hby d9_8) (by decide) (by decide) ⟨rfl, N2, e2⟩
theorem rm_compare_35 (hw : HW a0 Z) (a1 a2 : Addr) (a3 a4 : Addr) (i1 i2 i3 : Int32) (h0 : Heap) (n0 : Nat) (Z0 : n0 ≤ h0.size) (O_a1 : R_MP Z h0 a1 .null (.ref a4) (.int 1) (.int i1)) (O_a2 : R_IN Z h0 a2 (.int i2)) (O_a3 : R_IN Z h0 a3 (.int i3)) (hk0 : ¬ (i2 < i3)) (hk1 : ¬ (i2 = i3)) :
    Ctr l Y11 B10 3 (some FieldType.int) [] (rmk 3 0 0 39) Z #[(.ref a1), (.ref a2), (.ref a3)] h0 (fun v h L => v = some (.int 1) ∧ Fr n0 L ∧ h = h0) := by
  refine own_enter pn_2 (fun p e s m below meth c s₁ hx hby hml hown hnm hret hlk hZ X0 e0 => ?_)
  have N0 := Fr.nil n0
  have K0 := Keep.refl h0 []
  rw [ef_8_RRR m _ _ _]
  refine g_aloadN X0 hx (hb hby d8_0) rfl rfl ?_
  refine g_getF X0 hx hZ hown (Wd18 hw) e0 O_a1.2.1 (hb hby d8_1) (fun T1 X1 e1 => ?_)
  refine g_nonnullNo X1 hx (hb hby d8_4) ?_
  refine g_aloadN X1 hx (hb hby d8_7) rfl rfl ?_
  refine g_cast X1 hx hZ hown (Wd48 hw) e1 (Ins.of_exa O_a2.1 (Wd49 hw)) (hb hby d8_8) (fun T2 X2 e2 => ?_)
  refine g_aloadN X2 hx (hb hby d8_11) rfl rfl ?_
  refine g_F X2 hx hZ hown (lk9 hw) (mvT hZ (Wd52 hw)) (rm_compareTo_36 hw a2 a3 i2 i3 h0 n0 Z0 O_a2 O_a3 hk0 hk1) e2 O_a2.1 (hb hby d8_12) hml.symm rfl rfl (Nat.le_refl _) (by decide) (fun v3 T3 L3 X3 q3 => ?_)
  obtain ⟨rfl, M3, e3⟩ := q3
  have N3 := Fr.app N0 M3
  refine g_goto X3 hx 31 (hb hby d8_17) (by decide) (by decide) ?_
  exact own_retI X3 hx hret hlk (hb hby d8_31) (by decide) (by decide) ⟨rfl, N3, e3⟩
theorem rm_isRed_40 (hw : HW a0 Z) (a1 a2 : Addr) (a3 a4 : Addr) (h0 : Heap) (n0 : Nat) (Z0 : n0 ≤ h0.size) (O_a1 : R_ND Z h0 a1 (.ref a2) (.ref a3) .null (.ref a4) .null (.int 0)) :
    Ctr l Y16 B15 1 (some FieldType.boolean) [] (rmk 0 0 0 0) Z #[(.ref a1)] h0 (fun v h L => v = some (.int 0) ∧ Fr n0 L ∧ h = h0) := by
  refine own_enter pn_2 (fun p e s m below meth c s₁ hx hby hml hown hnm hret hlk hZ X0 e0 => ?_)
  have N0 := Fr.nil n0
  have K0 := Keep.refl h0 []
  rw [ef_18_R m _]
  refine g_aloadN X0 hx (hb hby d18_0) rfl rfl ?_
  refine g_nullNo X0 hx (hb hby d18_1) ?_
  refine g_aloadN X0 hx (hb hby d18_4) rfl rfl ?_
  refine g_getF X0 hx hZ hown (Wd94 hw) e0 O_a1.2.2.2.2.2.2 (hb hby d18_5) (fun T1 X1 e1 => ?_)
  refine g_ifYes X1 hx 15 (hb hby d18_8) ((if0 _ _).trans (flt ((by decide) : ¬ ((0 : Int32) < (0 : Int32)))).2.1) (by decide) (by decide) ?_
  refine g_iconst X1 hx (0 : Int32) (hb hby d18_15) (by decide) ?_
  exact own_retZ X1 hx hret hlk (hb hby d18_16) (by decide) (by decide) (by decide) ⟨rfl, N0, e1⟩
theorem rm_setRed_41 (hw : HW a0 Z) (a1 a2 : Addr) (a3 a4 : Addr) (h0 : Heap) (n0 : Nat) (Z0 : n0 ≤ h0.size) (O_a1 : R_ND Z h0 a1 (.ref a2) (.ref a3) .null (.ref a4) .null (.int 0)) (g_a1 : n0 ≤ a1) :
    Ctr l Y17 B16 2 none [] (rmk 0 0 0 0) Z #[(.ref a1), (.int 0)] h0 (fun v h L => v = none ∧ Fr n0 L ∧ Keep h0 h [a1] ∧ R_ND Z h a1 (.ref a2) (.ref a3) .null (.ref a4) .null (.int 0)) := by
  refine own_enter pn_2 (fun p e s m below meth c s₁ hx hby hml hown hnm hret hlk hZ X0 e0 => ?_)
  have N0 := Fr.nil n0
  have K0 := Keep.refl h0 [a1]
  rw [ef_14_RI m _ _]
  refine g_aloadN X0 hx (hb hby d14_0) rfl rfl ?_
  refine g_iloadN X0 hx (hb hby d14_1) rfl ?_
  refine g_ifYes X0 hx 16 (hb hby d14_2) ((if0 _ _).trans (teq ((by decide) : (0 : Int32) = (0 : Int32))).1) (by decide) (by decide) ?_
  refine g_aloadN X0 hx (hb hby d14_16) rfl rfl ?_
  refine g_getF X0 hx hZ hown (Wd94 hw) e0 O_a1.2.2.2.2.2.2 (hb hby d14_17) (fun T1 X1 e1 => ?_)
  refine g_ldcw X1 hx hZ hown (Wd95 hw) (hb hby d14_20) ?_
  refine g_iand X1 hx (hb hby d14_23) ?_
  show Go p e below (T1.setTop (mkF m 24 #[vr a1, vi 0] [(.int ((0 : Int32) &&& (2147483647 : Int32))), (.ref a1)])) _
  rw [show ((0 : Int32) &&& (2147483647 : Int32)) = (0 : Int32) from by decide]
  refine g_putF X1 hx hZ hown (Wd94 hw) e1 O_a1.2.2.2.2.2.2 O_a1.1 (Or.inl (Wd84 hw)) (Wd76 hw) fd_0 rfl rfl (hb hby d14_24) (fun T2 h2 X2 e2 W2 => ?_)
  have N2 := Fr.snoc X2 N0 g_a1
  have O_a1_2 := R_ND_set_redAndLeftCount hw W2 O_a1
  have K2 := Keep.wr K0 W2 (mw 0 rfl)
  exact own_retV X2 hx hret hlk (hb hby d14_27) (by decide) (by decide) (by rw [e2]; exact ⟨rfl, N2, K2, O_a1_2⟩)
theorem rm_balanceAfterInsert_39 (hw : HW a0 Z) (a1 a2 a3 : Addr) (i1 : Int32) (a4 a5 : Addr) (a6 a7 : Addr) (i2 i3 : Int32) (h0 : Heap) (n0 : Nat) (Z0 : n0 ≤ h0.size) (O_a1 : R_MP Z h0 a1 .null (.ref a3) (.int 2) (.int i1)) (O_a2 : R_ND Z h0 a2 (.ref a4) (.ref a5) .null .null (.ref a3) (.int (-2147483648))) (O_a3 : R_ND Z h0 a3 (.ref a6) (.ref a7) .null (.ref a2) .null (.int 0)) (g_a3 : n0 ≤ a3) (hk0 : ¬ (i2 < i3)) (hk1 : ¬ (i2 = i3)) :
    Ctr l Y18 B17 6 none [] (rmk 1 0 0 13) Z #[(.ref a1), (.ref a2)] h0 (fun v h L => v = none ∧ Fr n0 L ∧ Keep h0 h [a3] ∧ R_ND Z h a3 (.ref a6) (.ref a7) .null (.ref a2) .null (.int 0)) := by
  refine own_enter pn_2 (fun p e s m below meth c s₁ hx hby hml hown hnm hret hlk hZ X0 e0 => ?_)
  have N0 := Fr.nil n0
  have K0 := Keep.refl h0 [a3]
  rw [ef_17_RR m _ _]
  refine g_aloadN X0 hx (hb hby d17_0) rfl rfl ?_
  refine g_astoreN X0 hx #[vr a1, vr a2, vr a2, vu, vu, vu] (hb hby d17_1) rfl rfl ?_
  refine g_aloadN X0 hx (hb hby d17_2) rfl rfl ?_
  refine g_getF X0 hx hZ hown (Wd117 hw) e0 O_a2.2.2.2.2.2.1 (hb hby d17_3) (fun T1 X1 e1 => ?_)
  refine g_S X1 hx hZ hown (lk15 hw) (rm_isRed_40 hw a3 a6 a7 a2 h0 n0 Z0 O_a3) e1 (hb hby d17_6) hml.symm rfl rfl (Nat.le_refl _) (by decide) (fun v2 T2 L2 X2 q2 => ?_)
  obtain ⟨rfl, M2, e2⟩ := q2
  have N2 := Fr.app N0 M2
  refine g_ifYes X2 hx 188 (hb hby d17_9) ((if0 _ _).trans (teq ((by decide) : (0 : Int32) = (0 : Int32))).1) (by decide) (by decide) ?_
  refine g_aloadN X2 hx (hb hby d17_188) rfl rfl ?_
  refine g_getF X2 hx hZ hown (Wd25 hw) e2 O_a1.2.2.1 (hb hby d17_189) (fun T3 X3 e3 => ?_)
  refine g_iconst X3 hx (0 : Int32) (hb hby d17_192) (by decide) ?_
  refine g_S X3 hx hZ hown (lk16 hw) (rm_setRed_41 hw a3 a6 a7 a2 h0 n0 Z0 O_a3 g_a3) e3 (hb hby d17_193) hml.symm rfl rfl (Nat.le_refl _) (by decide) (fun v4 T4 L4 X4 q4 => ?_)
  obtain ⟨rfl, M4, Kc4, Rk4_0⟩ := q4
  have N4 := Fr.app N2 M4
  have K4 := Keep.trans K0 Kc4 (own_memc (mw 0 rfl) own_memn)
  exact own_retV X4 hx hret hlk (hb hby d17_196) (by decide) (by decide) (by rw [(rfl : T4.heap = T4.heap)]; exact ⟨rfl, N4, K4, Rk4_0⟩)
theorem d33_165 : decode B18 165 = .ok (.aload 9, 2) := by decide +kernel
theorem d33_179 : decode B18 179 = .ok (.aload 11, 2) := by decide +kernel
theorem d33_241 : decode B18 241 = .ok (.aload_n 3, 1) := by decide +kernel
theorem d33_242 : decode B18 242 = .ok (.aload 7, 2) := by decide +kernel
theorem d33_244 : decode B18 244 = .ok (.putfield 214, 3) := by decide +kernel
theorem rm_addIfAbsent_34 (hw : HW a0 Z) (a1 a2 : Addr) (a3 a4 : Addr) (i1 i2 : Int32) (a5 a6 : Addr) (i3 : Int32) (h0 : Heap) (n0 : Nat) (Z0 : n0 ≤ h0.size) (O_a1 : R_MP Z h0 a1 .null (.ref a4) (.int 1) (.int i1)) (O_a2 : R_IN Z h0 a2 (.int i2)) (O_a4 : R_ND Z h0 a4 (.ref a5) (.ref a6) .null .null .null (.int 0)) (O_a5 : R_IN Z h0 a5 (.int i3)) (ne_a1_a4 : a1 ≠ a4) (g_a1 : n0 ≤ a1) (g_a4 : n0 ≤ a4) (hk0 : ¬ (i2 < i3)) (hk1 : ¬ (i2 = i3)) :
    CtrH l Y19 B18 15 (some F1_) [(71, 122, 210, 0), (137, 195, 210, 0), (210, 212, 210, 0)] (rmk 4 1 6 53) Z #[(.ref a1), (.ref a2), (.ref a3)] h0 (fun v h L => ∃ f1, v = some .null ∧ Fr n0 L ∧ Keep h0 h [a1, a4] ∧ h0.size ≤ f1 ∧ R_MP Z h a1 .null (.ref a4) (.int 2) (.int (i1 + (1 : Int32))) ∧ R_ND Z h a4 (.ref a5) (.ref a6) .null (.ref f1) .null (.int 0) ∧ R_ND Z h f1 (.ref a2) (.ref a3) .null .null (.ref a4) (.int (-2147483648))) := by
  refine own_enterH pn_2 (fun p e s m below meth c s₁ hx hby hml hown hnm hret hlk hZ X0 e0 => ?_)
  have D {q : Nat} {r} (z : decode B18 q = r) : decode c.code q = r := hb hby z
  have N0 := Fr.nil n0
  have K0 := Keep.refl h0 [a1, a4]
  rw [ef_33_RRR m _ _ _]
  refine g_aloadN X0 hx (D d33_0) rfl rfl ?_
  refine g_getF X0 hx hZ hown (Wd25 hw) e0 O_a1.2.2.1 (D d33_1) (fun T1 X1 e1 => ?_)
  refine g_nonnullYes X1 hx 50 (D d33_4) (by decide) (by decide) ?_
  refine g_null X1 hx (D d33_50) ?_
  refine g_astoreN X1 hx #[vr a1, vr a2, vr a3, vn, vu, vu, vu, vu, vu, vu, vu, vu, vu, vu, vu] (D d33_51) rfl rfl ?_
  refine g_iconst X1 hx (0 : Int32) (D d33_52) (by decide) ?_
  refine g_istore X1 hx #[vr a1, vr a2, vr a3, vn, vi 0, vu, vu, vu, vu, vu, vu, vu, vu, vu, vu] (D d33_53) rfl ?_
  refine g_aloadN X1 hx (D d33_55) rfl rfl ?_
  refine g_getF X1 hx hZ hown (Wd25 hw) e1 O_a1.2.2.1 (D d33_56) (fun T2 X2 e2 => ?_)
  refine g_astore X2 hx #[vr a1, vr a2, vr a3, vn, vi 0, vr a4, vu, vu, vu, vu, vu, vu, vu, vu, vu] (D d33_59) rfl rfl ?_
  refine g_aload X2 hx (D d33_61) rfl rfl ?_
  refine g_getF X2 hx hZ hown (Wd100 hw) e2 O_a4.2.1 (D d33_63) (fun T3 X3 e3 => ?_)
  refine g_astore X3 hx #[vr a1, vr a2, vr a3, vn, vi 0, vr a4, vr a5, vu, vu, vu, vu, vu, vu, vu, vu] (D d33_66) rfl rfl ?_
  refine g_null X3 hx (D d33_68) ?_
  refine g_astore X3 hx #[vr a1, vr a2, vr a3, vn, vi 0, vr a4, vr a5, vn, vu, vu, vu, vu, vu, vu, vu] (D d33_69) rfl rfl ?_
  refine g_aload X3 hx (D d33_71) rfl rfl ?_
  refine g_nullNo X3 hx (D d33_73) ?_
  refine g_aload X3 hx (D d33_76) rfl rfl ?_
  refine g_getF X3 hx hZ hown (Wd101 hw) e3 O_a4.2.2.2.1 (D d33_78) (fun T4 X4 e4 => ?_)
  refine g_astore X4 hx #[vr a1, vr a2, vr a3, vn, vi 0, vr a4, vr a5, vn, vn, vu, vu, vu, vu, vu, vu] (D d33_81) rfl rfl ?_
  refine g_aload X4 hx (D d33_83) rfl rfl ?_
  refine g_getF X4 hx hZ hown (Wd103 hw) e4 O_a4.2.2.2.2.1 (D d33_85) (fun T5 X5 e5 => ?_)
  refine g_astore X5 hx #[vr a1, vr a2, vr a3, vn, vi 0, vr a4, vr a5, vn, vn, vn, vu, vu, vu, vu, vu] (D d33_88) rfl rfl ?_
  refine g_aload X5 hx (D d33_90) rfl rfl ?_
  refine g_S X5 hx hZ hown (lk6 hw) (rm_keyOf_12 hw  h0 n0 Z0 ) e5 (D d33_92) hml.symm rfl rfl (Nat.le_refl _) (by decide) (fun v6 T6 L6 X6 q6 => ?_)
  obtain ⟨rfl, M6, e6⟩ := q6
  have N6 := Fr.app N0 M6
  refine g_astore X6 hx #[vr a1, vr a2, vr a3, vn, vi 0, vr a4, vr a5, vn, vn, vn, vn, vu, vu, vu, vu] (D d33_95) rfl rfl ?_
  refine g_aload X6 hx (D d33_97) rfl rfl ?_
  refine g_S X6 hx hZ hown (lk6 hw) (rm_keyOf_12 hw  h0 n0 Z0 ) e6 (D d33_99) hml.symm rfl rfl (Nat.le_refl _) (by decide) (fun v7 T7 L7 X7 q7 => ?_)
  obtain ⟨rfl, M7, e7⟩ := q7
  have N7 := Fr.app N6 M7
  refine g_astore X7 hx #[vr a1, vr a2, vr a3, vn, vi 0, vr a4, vr a5, vn, vn, vn, vn, vn, vu, vu, vu] (D d33_102) rfl rfl ?_
  refine g_aloadN X7 hx (D d33_104) rfl rfl ?_
  refine g_aloadN X7 hx (D d33_105) rfl rfl ?_
  refine g_aload X7 hx (D d33_106) rfl rfl ?_
  refine g_V X7 hx hZ hown (lk10 hw) (rm_compare_35 hw a1 a2 a5 a4 i1 i2 i3 h0 n0 Z0 O_a1 O_a2 O_a5 hk0 hk1) e7 O_a1.1 (D d33_108) hml.symm rfl rfl (Nat.le_refl _) (by decide) (fun v8 T8 L8 X8 q8 => ?_)
  obtain ⟨rfl, M8, e8⟩ := q8
  have N8 := Fr.app N7 M8
  refine g_istore X8 hx #[vr a1, vr a2, vr a3, vn, vi 0, vr a4, vr a5, vn, vn, vn, vn, vn, vi 1, vu, vu] (D d33_111) rfl ?_
  refine g_iload X8 hx (D d33_113) rfl ?_
  refine g_ifYes X8 hx 137 (D d33_115) ((if0 _ _).trans (feq ((by decide) : ¬ ((1 : Int32) = (0 : Int32)))).2) (by decide) (by decide) ?_
  refine g_aload X8 hx (D d33_137) rfl rfl ?_
  refine g_astoreN X8 hx #[vr a1, vr a2, vr a3, vr a4, vi 0, vr a4, vr a5, vn, vn, vn, vn, vn, vi 1, vu, vu] (D d33_139) rfl rfl ?_
  refine g_iload X8 hx (D d33_140) rfl ?_
  refine g_istore X8 hx #[vr a1, vr a2, vr a3, vr a4, vi 1, vr a4, vr a5, vn, vn, vn, vn, vn, vi 1, vu, vu] (D d33_142) rfl ?_
  refine g_iload X8 hx (D d33_144) rfl ?_
  refine g_ifYes X8 hx 155 (D d33_146) ((if0 _ _).trans (flt ((by decide) : ¬ ((1 : Int32) < (0 : Int32)))).2.1) (by decide) (by decide) ?_
  refine g_iload X8 hx (D d33_155) rfl ?_
  refine g_ifYes X8 hx 165 (D d33_157) ((if0 _ _).trans (flt ((by decide) : ¬ ((1 : Int32) < (0 : Int32)))).2.1) (by decide) (by decide) ?_
  refine g_aload X8 hx (D d33_165) rfl rfl ?_
  refine g_astore X8 hx #[vr a1, vr a2, vr a3, vr a4, vi 1, vn, vr a5, vn, vn, vn, vn, vn, vi 1, vu, vu] (D d33_167) rfl rfl ?_
  refine g_iload X8 hx (D d33_169) rfl ?_
  refine g_ifYes X8 hx 179 (D d33_171) ((if0 _ _).trans (flt ((by decide) : ¬ ((1 : Int32) < (0 : Int32)))).2.1) (by decide) (by decide) ?_
  refine g_aload X8 hx (D d33_179) rfl rfl ?_
  refine g_astore X8 hx #[vr a1, vr a2, vr a3, vr a4, vi 1, vn, vn, vn, vn, vn, vn, vn, vi 1, vu, vu] (D d33_181) rfl rfl ?_
  refine g_goto X8 hx 71 (D d33_183) (by decide) (by decide) ?_
  refine g_aload X8 hx (D d33_71) rfl rfl ?_
  refine g_nullYes X8 hx 186 (D d33_73) (by decide) (by decide) ?_
  refine g_aloadN X8 hx (D d33_186) rfl rfl ?_
  refine g_aloadN X8 hx (D d33_187) rfl rfl ?_
  refine g_aloadN X8 hx (D d33_188) rfl rfl ?_
  refine g_aloadN X8 hx (D d33_189) rfl rfl ?_
  refine g_V X8 hx hZ hown (lk13 hw) (rm_newNode_18 hw a1 a2 a3 a4 h0 n0 Z0 ) e8 O_a1.1 (D d33_190) hml.symm rfl rfl (Nat.le_refl _) (by decide) (fun v9 T9 L9 X9 q9 => ?_)
  obtain ⟨b9_0, rfl, M9, Kc9, zb9_0, Rk9_0⟩ := q9
  have N9 := Fr.app N8 M9
  have ne_a1_b9_0 : a1 ≠ b9_0 := Nat.ne_of_lt (Nat.lt_of_lt_of_le O_a1.1.lt zb9_0)
  have ne_a4_b9_0 : a4 ≠ b9_0 := Nat.ne_of_lt (Nat.lt_of_lt_of_le O_a4.1.lt zb9_0)
  have sz_b9_0 : h0.size ≤ b9_0 := Nat.le_trans K0.1 zb9_0
  have O_a1_9 := R_MP_keep O_a1 Kc9 nl
  have O_a4_9 := R_ND_keep O_a4 Kc9 nl
  have K9 := Keep.trans K0 Kc9 own_memn
  have Z9 : n0 ≤ T9.heap.size := Nat.le_trans Z0 Kc9.1
  refine g_astore X9 hx #[vr a1, vr a2, vr a3, vr a4, vi 1, vn, vn, vr b9_0, vn, vn, vn, vn, vi 1, vu, vu] (D d33_193) rfl rfl ?_
  refine g_aload X9 hx (D d33_195) rfl rfl ?_
  refine g_nonnullYes X9 hx 227 (D d33_197) (by decide) (by decide) ?_
  refine g_iload X9 hx (D d33_227) rfl ?_
  refine g_ifYes X9 hx 241 (D d33_229) ((if0 _ _).trans (flt ((by decide) : ¬ ((1 : Int32) < (0 : Int32)))).2.1) (by decide) (by decide) ?_
  refine g_aloadN X9 hx (D d33_241) rfl rfl ?_
  refine g_aload X9 hx (D d33_242) rfl rfl ?_
  refine g_putF X9 hx hZ hown (Wd103 hw) (rfl : T9.heap = T9.heap) O_a4_9.2.2.2.2.1 O_a4_9.1 (Or.inl (Wd104 hw)) (Wd76 hw) fd_2 rfl rfl (D d33_244) (fun T10 h10 X10 e10 W10 => ?_)
  have N10 := Fr.snoc X10 N9 g_a4
  have O_a1_10 := R_MP_other W10 O_a1_9 ne_a1_a4
  have O_a4_10 := R_ND_set_right hw W10 O_a4_9
  have O_b9_0_10 := R_ND_other W10 Rk9_0 ne_a4_b9_0.symm
  have Z10 : n0 ≤ h10.size := Nat.le_trans Z9 (Nat.le_of_eq W10.size.symm)
  have K10 := Keep.wr K9 W10 (mw 1 rfl)
  refine g_aloadN X10 hx (D d33_247) rfl rfl ?_
  refine g_dup X10 hx (D d33_248) rfl ?_
  refine g_getF X10 hx hZ hown (Wd96 hw) e10 O_a1_10.2.2.2.1 (D d33_249) (fun T11 X11 e11 => ?_)
  refine g_iconst X11 hx (1 : Int32) (D d33_252) (by decide) ?_
  refine g_iadd X11 hx (D d33_253) ?_
  show Go p e below (T11.setTop (mkF m 254 #[vr a1, vr a2, vr a3, vr a4, vi 1, vn, vn, vr b9_0, vn, vn, vn, vn, vi 1, vu, vu] [(.int ((1 : Int32) + (1 : Int32))), (.ref a1)])) _
  rw [show ((1 : Int32) + (1 : Int32)) = (2 : Int32) from by decide]
  refine g_putF X11 hx hZ hown (Wd96 hw) e11 O_a1_10.2.2.2.1 O_a1_10.1 (Or.inl (Wd97 hw)) (Wd2 hw) fd_0 rfl rfl (D d33_254) (fun T12 h12 X12 e12 W12 => ?_)
  have N12 := Fr.snoc X12 N10 g_a1
  have O_a1_12 := R_MP_set_size hw W12 O_a1_10
  have O_a4_12 := R_ND_other W12 O_a4_10 ne_a1_a4.symm
  have O_b9_0_12 := R_ND_other W12 O_b9_0_10 ne_a1_b9_0.symm
  have Z12 : n0 ≤ h12.size := Nat.le_trans Z10 (Nat.le_of_eq W12.size.symm)
  have K12 := Keep.wr K10 W12 (mw 0 rfl)
  refine g_aloadN X12 hx (D d33_257) rfl rfl ?_
  refine g_aloadN X12 hx (D d33_258) rfl rfl ?_
  refine g_V X12 hx hZ hown (lk14 hw) (rm_refreshToRoot_20 hw a1 a4 h12 n0 Z12 ) e12 O_a1_12.1 (D d33_259) hml.symm rfl rfl (Nat.le_refl _) (by decide) (fun v13 T13 L13 X13 q13 => ?_)
  obtain ⟨rfl, M13, e13⟩ := q13
  have N13 := Fr.app N12 M13
  refine g_aloadN X13 hx (D d33_262) rfl rfl ?_
  refine g_aload X13 hx (D d33_263) rfl rfl ?_
  refine g_P X13 hx hZ hown (lk17 hw) (rm_balanceAfterInsert_39 hw a1 b9_0 a4 i1 a2 a3 a5 a6 i2 i3 h12 n0 Z12 O_a1_12 O_b9_0_12 O_a4_12 g_a4 hk0 hk1) e13 O_a1_12.1 (D d33_265) hml.symm rfl rfl (Nat.le_refl _) (by decide) (fun v14 T14 L14 X14 q14 => ?_)
  obtain ⟨rfl, M14, Kc14, Rk14_0⟩ := q14
  have N14 := Fr.app N13 M14
  have O_a1_14 := R_MP_keep O_a1_12 Kc14 (own_nin ne_a1_a4 nl)
  have O_b9_0_14 := R_ND_keep O_b9_0_12 Kc14 (own_nin ne_a4_b9_0.symm nl)
  have K14 := Keep.trans K12 Kc14 (own_memc (mw 1 rfl) own_memn)
  refine g_aloadN X14 hx (D d33_268) rfl rfl ?_
  refine g_dup X14 hx (D d33_269) rfl ?_
  refine g_getF X14 hx hZ hown (Wd98 hw) (rfl : T14.heap = T14.heap) O_a1_14.2.2.2.2 (D d33_270) (fun T15 X15 e15 => ?_)
  refine g_iconst X15 hx (1 : Int32) (D d33_273) (by decide) ?_
  refine g_iadd X15 hx (D d33_274) ?_
  refine g_putF X15 hx hZ hown (Wd98 hw) e15 O_a1_14.2.2.2.2 O_a1_14.1 (Or.inl (Wd99 hw)) (Wd2 hw) fd_0 rfl rfl (D d33_275) (fun T16 h16 X16 e16 W16 => ?_)
  have N16 := Fr.snoc X16 N14 g_a1
  have O_a1_16 := R_MP_set_modCount hw W16 O_a1_14
  have O_b9_0_16 := R_ND_other W16 O_b9_0_14 ne_a1_b9_0.symm
  have O_a4_16 := R_ND_other W16 Rk14_0 ne_a1_a4.symm
  have K16 := Keep.wr K14 W16 (mw 0 rfl)
  refine g_null X16 hx (D d33_278) ?_
  exact own_retA X16 hx hret hlk rfl rfl (D d33_279) (by decide) (by decide) (by rw [e16]; exact ⟨b9_0, rfl, N16, K16, sz_b9_0, O_a1_16, O_a4_16, O_b9_0_16⟩)
theorem rm_put_33 (hw : HW a0 Z) (a1 a2 : Addr) (a3 a4 : Addr) (i1 i2 : Int32) (a5 a6 : Addr) (i3 : Int32) (h0 : Heap) (n0 : Nat) (Z0 : n0 ≤ h0.size) (O_a1 : R_MP Z h0 a1 .null (.ref a4) (.int 1) (.int i1)) (O_a2 : R_IN Z h0 a2 (.int i2)) (O_a4 : R_ND Z h0 a4 (.ref a5) (.ref a6) .null .null .null (.int 0)) (O_a5 : R_IN Z h0 a5 (.int i3)) (ne_a1_a4 : a1 ≠ a4) (g_a1 : n0 ≤ a1) (g_a4 : n0 ≤ a4) (hk0 : ¬ (i2 < i3)) (hk1 : ¬ (i2 = i3)) :
    Ctr l Y20 B19 4 (some F3_) [] (rmk 5 1 6 79) Z #[(.ref a1), (.ref a2), (.ref a3)] h0 (fun v h L => ∃ f1, v = some .null ∧ Fr n0 L ∧ Keep h0 h [a1, a4] ∧ h0.size ≤ f1 ∧ R_MP Z h a1 .null (.ref a4) (.int 2) (.int (i1 + (1 : Int32))) ∧ R_ND Z h a4 (.ref a5) (.ref a6) .null (.ref f1) .null (.int 0) ∧ R_ND Z h f1 (.ref a2) (.ref a3) .null .null (.ref a4) (.int (-2147483648))) := by
  refine own_enter pn_2 (fun p e s m below meth c s₁ hx hby hml hown hnm hret hlk hZ X0 e0 => ?_)
  have N0 := Fr.nil n0
  have K0 := Keep.refl h0 [a1, a4]
  rw [ef_7_RRR m _ _ _]
  refine g_aloadN X0 hx (hb hby d7_0) rfl rfl ?_
  refine g_aloadN X0 hx (hb hby d7_1) rfl rfl ?_
  refine g_aloadN X0 hx (hb hby d7_2) rfl rfl ?_
  refine g_PH X0 hx hZ hown (lk18 hw) (rm_addIfAbsent_34 hw a1 a2 a3 a4 i1 i2 a5 a6 i3 h0 n0 Z0 O_a1 O_a2 O_a4 O_a5 ne_a1_a4 g_a1 g_a4 hk0 hk1) e0 O_a1.1 (hb hby d7_3) hml.symm rfl rfl (Nat.le_refl _) (by decide) (fun v1 T1 L1 X1 q1 => ?_)
  obtain ⟨b1_0, rfl, M1, Kc1, zb1_0, Rk1_0, Rk1_1, Rk1_2⟩ := q1
  have N1 := Fr.app N0 M1
  have sz_b1_0 : h0.size ≤ b1_0 := Nat.le_trans K0.1 zb1_0
  have K1 := Keep.trans K0 Kc1 (own_memc (mw 0 rfl) (own_memc (mw 1 rfl) own_memn))
  refine g_astoreN X1 hx #[vr a1, vr a2, vr a3, vn] (hb hby d7_6) rfl rfl ?_
  refine g_aloadN X1 hx (hb hby d7_7) rfl rfl ?_
  refine g_nonnullNo X1 hx (hb hby d7_8) ?_
  refine g_null X1 hx (hb hby d7_11) ?_
  refine g_goto X1 hx 21 (hb hby d7_12) (by decide) (by decide) ?_
  exact own_retA X1 hx hret hlk rfl rfl (hb hby d7_21) (by decide) (by decide) (by rw [(rfl : T1.heap = T1.heap)]; exact ⟨b1_0, rfl, N1, K1, sz_b1_0, Rk1_0, Rk1_1, Rk1_2⟩)
theorem seg_77_1 (hw : HW a0 Z) (wc : Addr) (clc : Cell) (p1 p2 : Int32) (p3 p4 : Int32) (p5 n : Int32) (M : Addr) (mc : Int32) (r km vm : Addr) (ma va : Int32) (m2 v2 : Int32) (h0 : Heap) (n0 : Nat) (Z0 : n0 ≤ h0.size) (hN : Z.heap.size ≤ n0) (C1 : Sta Z Z.heap "java/lang/Integer$IntegerCache" "high" "I" (.int 127)) (C2 : Sta Z Z.heap "java/lang/Integer$IntegerCache" "cache" "[Ljava/lang/Integer;" (.ref wc)) (BX : Bxs Z wc clc "java/lang/Integer" "I" (256 : Int32) (fun j => .int (j - (128 : Int32)))) (KO : Keep Z.heap h0 []) (O_M : R_MP Z h0 M .null (.ref r) (.int 1) (.int mc)) (O_r : R_ND Z h0 r (.ref km) (.ref vm) .null .null .null (.int 0)) (O_km : R_IN Z h0 km (.int ma)) (O_vm : R_IN Z h0 vm (.int va)) (ne_M_r : M ≠ r) (ne_M_km : M ≠ km) (ne_M_vm : M ≠ vm) (ne_r_km : r ≠ km) (ne_r_vm : r ≠ vm) (g_M : n0 ≤ M) (g_r : n0 ≤ r) (hn : ¬ n = (0 : Int32)) (Tb : own_T n (2 : Int32) p3 p2 (0 : Int32) (1 : Int32) m2 v2) (Tc : own_T n (3 : Int32) p4 m2 v2 (2 : Int32) ma va) {p : Program} {e : Env} {s : State} {m : MethodId} {below : List Frame} {meth : Method} {c : Code} {args : Array Value} {s₁ : State} {lo : List Loc} (hx : p.tables.exec = Jvm.exec) (hby : c.code = code) (hml : c.maxLocals = maxLocals) (hown : s.vm.findClass "com/example/rosewood/rosewood/RosewoodMapFirstPinLaw" = some m.cls) (hnm : meth.name = "law") (hret : meth.sig.returnType = ret) (hlk : meth.locks = false) (hZ : Z.Warmed39 s.vm) (X0 : Stand p l e room_1 s m args below meth c s₁ lo 10 31) (e0 : s₁.heap = h0) (N0 : Fr n0 lo) :
    Go p e below (s₁.setTop (mkF m 77 #[vi p1, vi p2, vi p3, vi p4, vi p5, vi n, vr M, vu, vu, vu] [])) (FinE s room_1.cells room_1.slots (fun v h L => v = some (.int 1) ∧ Fr n0 L)) := by
  refine g_iload X0 hx (hb hby at_77) rfl ?_
  refine g_iconst X0 hx (4 : Int32) (hb hby at_79) (by decide) ?_
  by_cases c80_1 : n < (4 : Int32)
  · refine g_icmpYes X0 hx 98 (hb hby at_80) (tlt c80_1).1 (by decide) (by decide) ?_
    exact seg_98_D1 hw p1 p2 p3 p4 p5 n M mc (1 : Int32) r .null (0 : Int32) km vm ma va m2 v2 ma va h0 n0 Z0 O_M O_r O_km O_vm ne_M_r ne_M_km ne_M_vm ne_r_km ne_r_vm g_M g_r hn Tb Tc (by have u0 : ¬ (n = (0 : Int32)) := hn; have u1 : n < (4 : Int32) := c80_1; have u2 := hn; have u3 := Tb; have u4 := Tc; (try simp only [own_T, own_R, Int32.lt_iff_toInt_lt, ← Int32.toInt_inj, Int32.reduceToInt] at u0 u1 u2 u3 u4) <;> (try simp only [own_T, own_R, Int32.lt_iff_toInt_lt, ← Int32.toInt_inj, Int32.reduceToInt]) <;> first | omega | (simp; done) | (simp; omega)) hx hby hml hown hnm hret hlk hZ (Stand.more X0 (by decide) (by decide)) e0 N0
  · refine g_icmpNo X0 hx (hb hby at_80) (flt c80_1).1 ?_
    refine g_aload X0 hx (hb hby at_83) rfl rfl ?_
    refine g_iload X0 hx (hb hby at_85) rfl ?_
    refine g_S X0 hx hZ hown (lk5 hw) (rm_valueOf hw wc clc p5 h0 n0 Z0 hN C1 C2 BX KO) e0 (hb hby at_87) hml.symm rfl (rest := [(.ref M)]) rfl (W := 1) (Nat.le_of_eq rfl) (by decide) (fun v2 T2 L2 X2 q2 => ?_)
    obtain ⟨b2, rfl, M2, Kc2, O2⟩ := q2
    have N2 := Fr.app N0 M2
    have O_M_2 := R_MP_keep O_M Kc2 nl
    have O_r_2 := R_ND_keep O_r Kc2 nl
    have O_km_2 := R_IN_keep O_km Kc2 nl
    have O_vm_2 := R_IN_keep O_vm Kc2 nl
    have KO_2 := Keep.trans KO Kc2 own_memn
    have ne_M_b2 : M ≠ b2 := own_exane O_M_2.1 O2.1 (by decide)
    have ne_r_b2 : r ≠ b2 := own_exane O_r_2.1 O2.1 (by decide)
    have Z2 : n0 ≤ T2.heap.size := Nat.le_trans Z0 Kc2.1
    refine g_iconst X2 hx (3 : Int32) (hb hby at_90) (by decide) ?_
    refine g_S X2 hx hZ hown (lk5 hw) (rm_valueOf hw wc clc (3 : Int32) T2.heap n0 Z2 hN C1 C2 BX KO_2) (rfl : T2.heap = T2.heap) (hb hby at_91) hml.symm rfl (rest := [(.ref b2), (.ref M)]) rfl (W := 2) (Nat.le_of_eq rfl) (by decide) (fun v3 T3 L3 X3 q3 => ?_)
    obtain ⟨b3, rfl, M3, Kc3, O3⟩ := q3
    have N3 := Fr.app N2 M3
    have O_M_3 := R_MP_keep O_M_2 Kc3 nl
    have O_r_3 := R_ND_keep O_r_2 Kc3 nl
    have O_km_3 := R_IN_keep O_km_2 Kc3 nl
    have O_vm_3 := R_IN_keep O_vm_2 Kc3 nl
    have O_b2_3 := R_IN_keep O2 Kc3 nl
    have ne_M_b3 : M ≠ b3 := own_exane O_M_3.1 O3.1 (by decide)
    have ne_r_b3 : r ≠ b3 := own_exane O_r_3.1 O3.1 (by decide)
    have Z3 : n0 ≤ T3.heap.size := Nat.le_trans Z2 Kc3.1
    rcases own_tri p5 ma with t94_4 | ⟨t94_4, t94_4'⟩ | ⟨t94_4, t94_4'⟩
    · refine g_V X3 hx hZ hown (lk19 hw) (rm_put_10 hw M b2 b3 r mc p5 km vm ma T3.heap n0 Z3 O_M_3 O_b2_3 O_r_3 O_km_3 ne_M_r g_M g_r t94_4) (rfl : T3.heap = T3.heap) O_M_3.1 (hb hby at_94) hml.symm rfl rfl (Nat.le_refl _) (by decide) (fun v5 T5 L5 X5 q5 => ?_)
      obtain ⟨b5_0, rfl, M5, Kc5, zb5_0, Rk5_0, Rk5_1, Rk5_2⟩ := q5
      have N5 := Fr.app N3 M5
      have ne_M_b5_0 : M ≠ b5_0 := Nat.ne_of_lt (Nat.lt_of_lt_of_le O_M_3.1.lt zb5_0)
      have ne_r_b5_0 : r ≠ b5_0 := Nat.ne_of_lt (Nat.lt_of_lt_of_le O_r_3.1.lt zb5_0)
      have ne_b2_b5_0 : b2 ≠ b5_0 := Nat.ne_of_lt (Nat.lt_of_lt_of_le O_b2_3.1.lt zb5_0)
      have ne_b3_b5_0 : b3 ≠ b5_0 := Nat.ne_of_lt (Nat.lt_of_lt_of_le O3.1.lt zb5_0)
      have g_b5_0 : n0 ≤ b5_0 := Nat.le_trans Z3 zb5_0
      have O_b2_5 := R_IN_keep O_b2_3 Kc5 (own_nin ne_M_b2.symm (own_nin ne_r_b2.symm nl))
      have O_b3_5 := R_IN_keep O3 Kc5 (own_nin ne_M_b3.symm (own_nin ne_r_b3.symm nl))
      have Z5 : n0 ≤ T5.heap.size := Nat.le_trans Z3 Kc5.1
      refine g_pop X5 hx (hb hby at_97) rfl ?_
      exact seg_98_D2 hw p1 p2 p3 p4 p5 n M (mc + (1 : Int32)) (2 : Int32) r .null (1 : Int32) km vm b5_0 .null (-2147483648 : Int32) b2 b3 p5 (3 : Int32) m2 v2 ma va T5.heap n0 Z5 Rk5_0 Rk5_1 Rk5_2 O_b2_5 O_b3_5 ne_M_r ne_M_b5_0 ne_M_b2 ne_M_b3 ne_r_b5_0 ne_r_b2 ne_r_b3 ne_b2_b5_0.symm ne_b3_b5_0.symm g_M g_r g_b5_0 hn Tb Tc (by have u0 : ¬ (n = (0 : Int32)) := hn; have u1 : ¬ (n < (4 : Int32)) := c80_1; have u2 : p5 < ma := t94_4; have u3 := hn; have u4 := Tb; have u5 := Tc; (try simp only [own_T, own_R, Int32.lt_iff_toInt_lt, ← Int32.toInt_inj, Int32.reduceToInt] at u0 u1 u2 u3 u4 u5) <;> (try simp only [own_T, own_R, Int32.lt_iff_toInt_lt, ← Int32.toInt_inj, Int32.reduceToInt]) <;> first | omega | (simp; done) | (simp; omega)) hx hby hml hown hnm hret hlk hZ (Stand.more X5 (by decide) (by decide)) (rfl : T5.heap = T5.heap) N5
    · refine g_V X3 hx hZ hown (lk19 hw) (rm_put_24 hw M b2 b3 r mc p5 km vm ma T3.heap n0 Z3 O_M_3 O_b2_3 O_r_3 O_km_3 g_r t94_4 t94_4') (rfl : T3.heap = T3.heap) O_M_3.1 (hb hby at_94) hml.symm rfl rfl (Nat.le_refl _) (by decide) (fun v6 T6 L6 X6 q6 => ?_)
      obtain ⟨rfl, M6, Kc6, Rk6_0⟩ := q6
      have N6 := Fr.app N3 M6
      have O_M_6 := R_MP_keep O_M_3 Kc6 (own_nin ne_M_r nl)
      have O_km_6 := R_IN_keep O_km_3 Kc6 (own_nin ne_r_km.symm nl)
      have O_b3_6 := R_IN_keep O3 Kc6 (own_nin ne_r_b3.symm nl)
      have Z6 : n0 ≤ T6.heap.size := Nat.le_trans Z3 Kc6.1
      refine g_pop X6 hx (hb hby at_97) rfl ?_
      exact seg_98_D1 hw p1 p2 p3 p4 p5 n M mc (1 : Int32) r .null (0 : Int32) km b3 ma (3 : Int32) m2 v2 ma va T6.heap n0 Z6 O_M_6 Rk6_0 O_km_6 O_b3_6 ne_M_r ne_M_km ne_M_b3 ne_r_km ne_r_b3 g_M g_r hn Tb Tc (by have u0 : ¬ (n = (0 : Int32)) := hn; have u1 : ¬ (n < (4 : Int32)) := c80_1; have u2 : ¬ (p5 < ma) := t94_4; have u3 : p5 = ma := t94_4'; have u4 := hn; have u5 := Tb; have u6 := Tc; (try simp only [own_T, own_R, Int32.lt_iff_toInt_lt, ← Int32.toInt_inj, Int32.reduceToInt] at u0 u1 u2 u3 u4 u5 u6) <;> (try simp only [own_T, own_R, Int32.lt_iff_toInt_lt, ← Int32.toInt_inj, Int32.reduceToInt]) <;> first | omega | (simp; done) | (simp; omega)) hx hby hml hown hnm hret hlk hZ (Stand.more X6 (by decide) (by decide)) (rfl : T6.heap = T6.heap) N6
    · refine g_V X3 hx hZ hown (lk19 hw) (rm_put_33 hw M b2 b3 r mc p5 km vm ma T3.heap n0 Z3 O_M_3 O_b2_3 O_r_3 O_km_3 ne_M_r g_M g_r t94_4 t94_4') (rfl : T3.heap = T3.heap) O_M_3.1 (hb hby at_94) hml.symm rfl rfl (Nat.le_refl _) (by decide) (fun v7 T7 L7 X7 q7 => ?_)
      obtain ⟨b7_0, rfl, M7, Kc7, zb7_0, Rk7_0, Rk7_1, Rk7_2⟩ := q7
      have N7 := Fr.app N3 M7
      have O_km_7 := R_IN_keep O_km_3 Kc7 (own_nin ne_M_km.symm (own_nin ne_r_km.symm nl))
      have O_vm_7 := R_IN_keep O_vm_3 Kc7 (own_nin ne_M_vm.symm (own_nin ne_r_vm.symm nl))
      have Z7 : n0 ≤ T7.heap.size := Nat.le_trans Z3 Kc7.1
      refine g_pop X7 hx (hb hby at_97) rfl ?_
      exact seg_98_D1 hw p1 p2 p3 p4 p5 n M (mc + (1 : Int32)) (2 : Int32) r (.ref b7_0) (0 : Int32) km vm ma va m2 v2 ma va T7.heap n0 Z7 Rk7_0 Rk7_1 O_km_7 O_vm_7 ne_M_r ne_M_km ne_M_vm ne_r_km ne_r_vm g_M g_r hn Tb Tc (by have u0 : ¬ (n = (0 : Int32)) := hn; have u1 : ¬ (n < (4 : Int32)) := c80_1; have u2 : ¬ (p5 < ma) := t94_4; have u3 : ¬ (p5 = ma) := t94_4'; have u4 := hn; have u5 := Tb; have u6 := Tc; (try simp only [own_T, own_R, Int32.lt_iff_toInt_lt, ← Int32.toInt_inj, Int32.reduceToInt] at u0 u1 u2 u3 u4 u5 u6) <;> (try simp only [own_T, own_R, Int32.lt_iff_toInt_lt, ← Int32.toInt_inj, Int32.reduceToInt]) <;> first | omega | (simp; done) | (simp; omega)) hx hby hml hown hnm hret hlk hZ (Stand.more X7 (by decide) (by decide)) (rfl : T7.heap = T7.heap) N7
theorem ef_15_R (m : MethodId) (x0 : Addr) : entryFrame m #[(.ref x0)] 1 = mkF m 0 #[vr x0] [] := by first | (simp [entryFrame, mkF, argsToLocals, Value.category]; done) | rfl
theorem d15_8 : decode B6 8 = .ok (.aload_n 0, 1) := by decide +kernel
theorem d15_9 : decode B6 9 = .ok (.getfield 92, 3) := by decide +kernel
theorem rm_keyOf_44 (hw : HW a0 Z) (a1 a2 : Addr) (a3 a4 : Addr) (h0 : Heap) (n0 : Nat) (Z0 : n0 ≤ h0.size) (O_a1 : R_ND Z h0 a1 (.ref a2) (.ref a3) .null .null (.ref a4) (.int (-2147483648))) :
    Ctr l Y6 B6 1 (some F3_) [] (rmk 0 0 0 0) Z #[(.ref a1)] h0 (fun v h L => v = some (.ref a2) ∧ Fr n0 L ∧ h = h0) := by
  refine own_enter pn_2 (fun p e s m below meth c s₁ hx hby hml hown hnm hret hlk hZ X0 e0 => ?_)
  have N0 := Fr.nil n0
  have K0 := Keep.refl h0 []
  rw [ef_15_R m _]
  refine g_aloadN X0 hx (hb hby d15_0) rfl rfl ?_
  refine g_nonnullYes X0 hx 8 (hb hby d15_1) (by decide) (by decide) ?_
  refine g_aloadN X0 hx (hb hby d15_8) rfl rfl ?_
  refine g_getF X0 hx hZ hown (Wd100 hw) e0 O_a1.2.1 (hb hby d15_9) (fun T1 X1 e1 => ?_)
  exact own_retA X1 hx hret hlk rfl rfl (hb hby d15_12) (by decide) (by decide) ⟨rfl, N0, e1⟩
theorem rm_compare_45 (hw : HW a0 Z) (a1 a2 : Addr) (a3 a4 : Addr) (i1 i2 i3 : Int32) (h0 : Heap) (n0 : Nat) (Z0 : n0 ≤ h0.size) (O_a1 : R_MP Z h0 a1 .null (.ref a4) (.int 2) (.int i1)) (O_a2 : R_IN Z h0 a2 (.int i2)) (O_a3 : R_IN Z h0 a3 (.int i3)) (hk0 : i2 < i3) :
    Ctr l Y11 B10 3 (some FieldType.int) [] (rmk 3 0 0 39) Z #[(.ref a1), (.ref a2), (.ref a3)] h0 (fun v h L => v = some (.int (-1)) ∧ Fr n0 L ∧ h = h0) := by
  refine own_enter pn_2 (fun p e s m below meth c s₁ hx hby hml hown hnm hret hlk hZ X0 e0 => ?_)
  have N0 := Fr.nil n0
  have K0 := Keep.refl h0 []
  rw [ef_8_RRR m _ _ _]
  refine g_aloadN X0 hx (hb hby d8_0) rfl rfl ?_
  refine g_getF X0 hx hZ hown (Wd18 hw) e0 O_a1.2.1 (hb hby d8_1) (fun T1 X1 e1 => ?_)
  refine g_nonnullNo X1 hx (hb hby d8_4) ?_
  refine g_aloadN X1 hx (hb hby d8_7) rfl rfl ?_
  refine g_cast X1 hx hZ hown (Wd48 hw) e1 (Ins.of_exa O_a2.1 (Wd49 hw)) (hb hby d8_8) (fun T2 X2 e2 => ?_)
  refine g_aloadN X2 hx (hb hby d8_11) rfl rfl ?_
  refine g_F X2 hx hZ hown (lk9 hw) (mvT hZ (Wd52 hw)) (rm_compareTo_14 hw a2 a3 i2 i3 h0 n0 Z0 O_a2 O_a3 hk0) e2 O_a2.1 (hb hby d8_12) hml.symm rfl rfl (Nat.le_refl _) (by decide) (fun v3 T3 L3 X3 q3 => ?_)
  obtain ⟨rfl, M3, e3⟩ := q3
  have N3 := Fr.app N0 M3
  refine g_goto X3 hx 31 (hb hby d8_17) (by decide) (by decide) ?_
  exact own_retI X3 hx hret hlk (hb hby d8_31) (by decide) (by decide) ⟨rfl, N3, e3⟩
theorem rm_addToLeftCount_46 (hw : HW a0 Z) (a1 a2 : Addr) (a3 a4 : Addr) (h0 : Heap) (n0 : Nat) (Z0 : n0 ≤ h0.size) (O_a1 : R_ND Z h0 a1 (.ref a2) (.ref a3) (.ref a4) .null .null (.int 1)) (g_a1 : n0 ≤ a1) :
    Ctr l Y12 B11 2 none [] (rmk 0 0 0 0) Z #[(.ref a1), (.int 1)] h0 (fun v h L => v = none ∧ Fr n0 L ∧ Keep h0 h [a1] ∧ R_ND Z h a1 (.ref a2) (.ref a3) (.ref a4) .null .null (.int 2)) := by
  refine own_enter pn_2 (fun p e s m below meth c s₁ hx hby hml hown hnm hret hlk hZ X0 e0 => ?_)
  have N0 := Fr.nil n0
  have K0 := Keep.refl h0 [a1]
  rw [ef_22_RI m _ _]
  refine g_aloadN X0 hx (hb hby d22_0) rfl rfl ?_
  refine g_dup X0 hx (hb hby d22_1) rfl ?_
  refine g_getF X0 hx hZ hown (Wd94 hw) e0 O_a1.2.2.2.2.2.2 (hb hby d22_2) (fun T1 X1 e1 => ?_)
  refine g_iloadN X1 hx (hb hby d22_5) rfl ?_
  refine g_iadd X1 hx (hb hby d22_6) ?_
  show Go p e below (T1.setTop (mkF m 7 #[vr a1, vi 1] [(.int ((1 : Int32) + (1 : Int32))), (.ref a1)])) _
  rw [show ((1 : Int32) + (1 : Int32)) = (2 : Int32) from by decide]
  refine g_putF X1 hx hZ hown (Wd94 hw) e1 O_a1.2.2.2.2.2.2 O_a1.1 (Or.inl (Wd84 hw)) (Wd76 hw) fd_0 rfl rfl (hb hby d22_7) (fun T2 h2 X2 e2 W2 => ?_)
  have N2 := Fr.snoc X2 N0 g_a1
  have O_a1_2 := R_ND_set_redAndLeftCount hw W2 O_a1
  have K2 := Keep.wr K0 W2 (mw 0 rfl)
  exact own_retV X2 hx hret hlk (hb hby d22_10) (by decide) (by decide) (by rw [e2]; exact ⟨rfl, N2, K2, O_a1_2⟩)
theorem rm_addToLeftCount_47 (hw : HW a0 Z) (a1 a2 : Addr) (a3 a4 : Addr) (h0 : Heap) (n0 : Nat) (Z0 : n0 ≤ h0.size) (O_a1 : R_ND Z h0 a1 (.ref a2) (.ref a3) .null .null (.ref a4) (.int (-2147483648))) (g_a1 : n0 ≤ a1) :
    Ctr l Y12 B11 2 none [] (rmk 0 0 0 0) Z #[(.ref a1), (.int 1)] h0 (fun v h L => v = none ∧ Fr n0 L ∧ Keep h0 h [a1] ∧ R_ND Z h a1 (.ref a2) (.ref a3) .null .null (.ref a4) (.int (-2147483647))) := by
  refine own_enter pn_2 (fun p e s m below meth c s₁ hx hby hml hown hnm hret hlk hZ X0 e0 => ?_)
  have N0 := Fr.nil n0
  have K0 := Keep.refl h0 [a1]
  rw [ef_22_RI m _ _]
  refine g_aloadN X0 hx (hb hby d22_0) rfl rfl ?_
  refine g_dup X0 hx (hb hby d22_1) rfl ?_
  refine g_getF X0 hx hZ hown (Wd94 hw) e0 O_a1.2.2.2.2.2.2 (hb hby d22_2) (fun T1 X1 e1 => ?_)
  refine g_iloadN X1 hx (hb hby d22_5) rfl ?_
  refine g_iadd X1 hx (hb hby d22_6) ?_
  show Go p e below (T1.setTop (mkF m 7 #[vr a1, vi 1] [(.int ((-2147483648 : Int32) + (1 : Int32))), (.ref a1)])) _
  rw [show ((-2147483648 : Int32) + (1 : Int32)) = (-2147483647 : Int32) from by decide]
  refine g_putF X1 hx hZ hown (Wd94 hw) e1 O_a1.2.2.2.2.2.2 O_a1.1 (Or.inl (Wd84 hw)) (Wd76 hw) fd_0 rfl rfl (hb hby d22_7) (fun T2 h2 X2 e2 W2 => ?_)
  have N2 := Fr.snoc X2 N0 g_a1
  have O_a1_2 := R_ND_set_redAndLeftCount hw W2 O_a1
  have K2 := Keep.wr K0 W2 (mw 0 rfl)
  exact own_retV X2 hx hret hlk (hb hby d22_10) (by decide) (by decide) (by rw [e2]; exact ⟨rfl, N2, K2, O_a1_2⟩)
theorem d18_11 : decode B15 11 = .ok (.iconst 1, 1) := by decide +kernel
theorem d18_12 : decode B15 12 = .ok (.goto 4, 3) := by decide +kernel
theorem rm_isRed_49 (hw : HW a0 Z) (a1 a2 : Addr) (a3 a4 a5 : Addr) (h0 : Heap) (n0 : Nat) (Z0 : n0 ≤ h0.size) (O_a1 : R_ND Z h0 a1 (.ref a2) (.ref a3) (.ref a4) .null (.ref a5) (.int (-2147483647))) :
    Ctr l Y16 B15 1 (some FieldType.boolean) [] (rmk 0 0 0 0) Z #[(.ref a1)] h0 (fun v h L => v = some (.int 1) ∧ Fr n0 L ∧ h = h0) := by
  refine own_enter pn_2 (fun p e s m below meth c s₁ hx hby hml hown hnm hret hlk hZ X0 e0 => ?_)
  have N0 := Fr.nil n0
  have K0 := Keep.refl h0 []
  rw [ef_18_R m _]
  refine g_aloadN X0 hx (hb hby d18_0) rfl rfl ?_
  refine g_nullNo X0 hx (hb hby d18_1) ?_
  refine g_aloadN X0 hx (hb hby d18_4) rfl rfl ?_
  refine g_getF X0 hx hZ hown (Wd94 hw) e0 O_a1.2.2.2.2.2.2 (hb hby d18_5) (fun T1 X1 e1 => ?_)
  refine g_ifNo X1 hx (hb hby d18_8) ((if0 _ _).trans (tlt ((by decide) : (-2147483647 : Int32) < (0 : Int32))).2.1) ?_
  refine g_iconst X1 hx (1 : Int32) (hb hby d18_11) (by decide) ?_
  refine g_goto X1 hx 16 (hb hby d18_12) (by decide) (by decide) ?_
  exact own_retZ X1 hx hret hlk (hb hby d18_16) (by decide) (by decide) (by decide) ⟨rfl, N0, e1⟩
theorem ef_18_n (m : MethodId)  : entryFrame m #[.null] 1 = mkF m 0 #[vn] [] := by first | (simp [entryFrame, mkF, argsToLocals, Value.category]; done) | rfl
theorem rm_isRed_50 (hw : HW a0 Z)  (h0 : Heap) (n0 : Nat) (Z0 : n0 ≤ h0.size)  :
    Ctr l Y16 B15 1 (some FieldType.boolean) [] (rmk 0 0 0 0) Z #[.null] h0 (fun v h L => v = some (.int 0) ∧ Fr n0 L ∧ h = h0) := by
  refine own_enter pn_2 (fun p e s m below meth c s₁ hx hby hml hown hnm hret hlk hZ X0 e0 => ?_)
  have N0 := Fr.nil n0
  have K0 := Keep.refl h0 []
  rw [ef_18_n m ]
  refine g_aloadN X0 hx (hb hby d18_0) rfl rfl ?_
  refine g_nullYes X0 hx 15 (hb hby d18_1) (by decide) (by decide) ?_
  refine g_iconst X0 hx (0 : Int32) (hb hby d18_15) (by decide) ?_
  exact own_retZ X0 hx hret hlk (hb hby d18_16) (by decide) (by decide) (by decide) ⟨rfl, N0, e0⟩
theorem rm_setRed_51 (hw : HW a0 Z) (a1 a2 : Addr) (a3 a4 a5 : Addr) (h0 : Heap) (n0 : Nat) (Z0 : n0 ≤ h0.size) (O_a1 : R_ND Z h0 a1 (.ref a2) (.ref a3) (.ref a4) .null (.ref a5) (.int (-2147483647))) (g_a1 : n0 ≤ a1) :
    Ctr l Y17 B16 2 none [] (rmk 0 0 0 0) Z #[(.ref a1), (.int 0)] h0 (fun v h L => v = none ∧ Fr n0 L ∧ Keep h0 h [a1] ∧ R_ND Z h a1 (.ref a2) (.ref a3) (.ref a4) .null (.ref a5) (.int 1)) := by
  refine own_enter pn_2 (fun p e s m below meth c s₁ hx hby hml hown hnm hret hlk hZ X0 e0 => ?_)
  have N0 := Fr.nil n0
  have K0 := Keep.refl h0 [a1]
  rw [ef_14_RI m _ _]
  refine g_aloadN X0 hx (hb hby d14_0) rfl rfl ?_
  refine g_iloadN X0 hx (hb hby d14_1) rfl ?_
  refine g_ifYes X0 hx 16 (hb hby d14_2) ((if0 _ _).trans (teq ((by decide) : (0 : Int32) = (0 : Int32))).1) (by decide) (by decide) ?_
  refine g_aloadN X0 hx (hb hby d14_16) rfl rfl ?_
  refine g_getF X0 hx hZ hown (Wd94 hw) e0 O_a1.2.2.2.2.2.2 (hb hby d14_17) (fun T1 X1 e1 => ?_)
  refine g_ldcw X1 hx hZ hown (Wd95 hw) (hb hby d14_20) ?_
  refine g_iand X1 hx (hb hby d14_23) ?_
  show Go p e below (T1.setTop (mkF m 24 #[vr a1, vi 0] [(.int ((-2147483647 : Int32) &&& (2147483647 : Int32))), (.ref a1)])) _
  rw [show ((-2147483647 : Int32) &&& (2147483647 : Int32)) = (1 : Int32) from by decide]
  refine g_putF X1 hx hZ hown (Wd94 hw) e1 O_a1.2.2.2.2.2.2 O_a1.1 (Or.inl (Wd84 hw)) (Wd76 hw) fd_0 rfl rfl (hb hby d14_24) (fun T2 h2 X2 e2 W2 => ?_)
  have N2 := Fr.snoc X2 N0 g_a1
  have O_a1_2 := R_ND_set_redAndLeftCount hw W2 O_a1
  have K2 := Keep.wr K0 W2 (mw 0 rfl)
  exact own_retV X2 hx hret hlk (hb hby d14_27) (by decide) (by decide) (by rw [e2]; exact ⟨rfl, N2, K2, O_a1_2⟩)
theorem d14_5 : decode B16 5 = .ok (.aload_n 0, 1) := by decide +kernel
theorem d14_6 : decode B16 6 = .ok (.getfield 285, 3) := by decide +kernel
theorem d14_9 : decode B16 9 = .ok (.ldc_w 288, 3) := by decide +kernel
theorem d14_12 : decode B16 12 = .ok (.ior, 1) := by decide +kernel
theorem d14_13 : decode B16 13 = .ok (.goto 11, 3) := by decide +kernel
theorem rm_setRed_52 (hw : HW a0 Z) (a1 a2 : Addr) (a3 a4 : Addr) (h0 : Heap) (n0 : Nat) (Z0 : n0 ≤ h0.size) (O_a1 : R_ND Z h0 a1 (.ref a2) (.ref a3) (.ref a4) .null .null (.int 2)) (g_a1 : n0 ≤ a1) :
    Ctr l Y17 B16 2 none [] (rmk 0 0 0 0) Z #[(.ref a1), (.int 1)] h0 (fun v h L => v = none ∧ Fr n0 L ∧ Keep h0 h [a1] ∧ R_ND Z h a1 (.ref a2) (.ref a3) (.ref a4) .null .null (.int (-2147483646))) := by
  refine own_enter pn_2 (fun p e s m below meth c s₁ hx hby hml hown hnm hret hlk hZ X0 e0 => ?_)
  have N0 := Fr.nil n0
  have K0 := Keep.refl h0 [a1]
  rw [ef_14_RI m _ _]
  refine g_aloadN X0 hx (hb hby d14_0) rfl rfl ?_
  refine g_iloadN X0 hx (hb hby d14_1) rfl ?_
  refine g_ifNo X0 hx (hb hby d14_2) ((if0 _ _).trans (feq ((by decide) : ¬ ((1 : Int32) = (0 : Int32)))).1) ?_
  refine g_aloadN X0 hx (hb hby d14_5) rfl rfl ?_
  refine g_getF X0 hx hZ hown (Wd94 hw) e0 O_a1.2.2.2.2.2.2 (hb hby d14_6) (fun T1 X1 e1 => ?_)
  refine g_ldcw X1 hx hZ hown (Wd121 hw) (hb hby d14_9) ?_
  refine g_ior X1 hx (hb hby d14_12) ?_
  show Go p e below (T1.setTop (mkF m 13 #[vr a1, vi 1] [(.int ((2 : Int32) ||| (-2147483648 : Int32))), (.ref a1)])) _
  rw [show ((2 : Int32) ||| (-2147483648 : Int32)) = (-2147483646 : Int32) from by decide]
  refine g_goto X1 hx 24 (hb hby d14_13) (by decide) (by decide) ?_
  refine g_putF X1 hx hZ hown (Wd94 hw) e1 O_a1.2.2.2.2.2.2 O_a1.1 (Or.inl (Wd84 hw)) (Wd76 hw) fd_0 rfl rfl (hb hby d14_24) (fun T2 h2 X2 e2 W2 => ?_)
  have N2 := Fr.snoc X2 N0 g_a1
  have O_a1_2 := R_ND_set_redAndLeftCount hw W2 O_a1
  have K2 := Keep.wr K0 W2 (mw 0 rfl)
  exact own_retV X2 hx hret hlk (hb hby d14_27) (by decide) (by decide) (by rw [e2]; exact ⟨rfl, N2, K2, O_a1_2⟩)
theorem ef_20_RRR (m : MethodId) (x0 x1 x2 : Addr) : entryFrame m #[(.ref x0), (.ref x1), (.ref x2)] 4 = mkF m 0 #[vr x0, vr x1, vr x2, vu] [] := by first | (simp [entryFrame, mkF, argsToLocals, Value.category]; done) | rfl
theorem d20_0 : decode B23 0 = .ok (.aload_n 1, 1) := by decide +kernel
theorem d20_1 : decode B23 1 = .ok (.getfield 282, 3) := by decide +kernel
theorem d20_4 : decode B23 4 = .ok (.astore_n 3, 1) := by decide +kernel
theorem d20_5 : decode B23 5 = .ok (.aload_n 3, 1) := by decide +kernel
theorem d20_6 : decode B23 6 = .ok (.ifnonnull 11, 3) := by decide +kernel
theorem d20_9 : decode B23 9 = .ok (.aload_n 0, 1) := by decide +kernel
theorem d20_10 : decode B23 10 = .ok (.aload_n 2, 1) := by decide +kernel
theorem d20_11 : decode B23 11 = .ok (.putfield 22, 3) := by decide +kernel
theorem d20_14 : decode B23 14 = .ok (.goto 24, 3) := by decide +kernel
theorem d20_38 : decode B23 38 = .ok (.aload_n 2, 1) := by decide +kernel
theorem d20_39 : decode B23 39 = .ok (.ifnull 8, 3) := by decide +kernel
theorem d20_42 : decode B23 42 = .ok (.aload_n 2, 1) := by decide +kernel
theorem d20_43 : decode B23 43 = .ok (.aload_n 3, 1) := by decide +kernel
theorem d20_44 : decode B23 44 = .ok (.putfield 282, 3) := by decide +kernel
theorem d20_47 : decode B23 47 = .ok (.return_, 1) := by decide +kernel
theorem rm_replaceInParent_54 (hw : HW a0 Z) (a1 a2 a3 : Addr) (i1 : Int32) (a4 a5 : Addr) (a6 a7 a8 : Addr) (i2 i3 i4 : Int32) (h0 : Heap) (n0 : Nat) (Z0 : n0 ≤ h0.size) (O_a1 : R_MP Z h0 a1 .null (.ref a2) (.int 3) (.int i1)) (O_a2 : R_ND Z h0 a2 (.ref a4) (.ref a5) .null .null .null (.int (-2147483646))) (O_a3 : R_ND Z h0 a3 (.ref a6) (.ref a7) (.ref a8) .null (.ref a2) (.int 1)) (ne_a1_a3 : a1 ≠ a3) (g_a1 : n0 ≤ a1) (g_a3 : n0 ≤ a3) (hk0 : i4 < i2) (hk1 : i4 < i3) :
    Ctr l Y24 B23 4 none [] (rmk 0 0 0 0) Z #[(.ref a1), (.ref a2), (.ref a3)] h0 (fun v h L => v = none ∧ Fr n0 L ∧ Keep h0 h [a1, a3] ∧ R_MP Z h a1 .null (.ref a3) (.int 3) (.int i1) ∧ R_ND Z h a3 (.ref a6) (.ref a7) (.ref a8) .null .null (.int 1)) := by
  refine own_enter pn_2 (fun p e s m below meth c s₁ hx hby hml hown hnm hret hlk hZ X0 e0 => ?_)
  have N0 := Fr.nil n0
  have K0 := Keep.refl h0 [a1, a3]
  rw [ef_20_RRR m _ _ _]
  refine g_aloadN X0 hx (hb hby d20_0) rfl rfl ?_
  refine g_getF X0 hx hZ hown (Wd117 hw) e0 O_a2.2.2.2.2.2.1 (hb hby d20_1) (fun T1 X1 e1 => ?_)
  refine g_astoreN X1 hx #[vr a1, vr a2, vr a3, vn] (hb hby d20_4) rfl rfl ?_
  refine g_aloadN X1 hx (hb hby d20_5) rfl rfl ?_
  refine g_nonnullNo X1 hx (hb hby d20_6) ?_
  refine g_aloadN X1 hx (hb hby d20_9) rfl rfl ?_
  refine g_aloadN X1 hx (hb hby d20_10) rfl rfl ?_
  refine g_putF X1 hx hZ hown (Wd25 hw) e1 O_a1.2.2.1 O_a1.1 (Or.inl (Wd26 hw)) (Wd2 hw) fd_2 rfl rfl (hb hby d20_11) (fun T2 h2 X2 e2 W2 => ?_)
  have N2 := Fr.snoc X2 N0 g_a1
  have O_a1_2 := R_MP_set_root hw W2 O_a1
  have O_a3_2 := R_ND_other W2 O_a3 ne_a1_a3.symm
  have K2 := Keep.wr K0 W2 (mw 0 rfl)
  refine g_goto X2 hx 38 (hb hby d20_14) (by decide) (by decide) ?_
  refine g_aloadN X2 hx (hb hby d20_38) rfl rfl ?_
  refine g_nullNo X2 hx (hb hby d20_39) ?_
  refine g_aloadN X2 hx (hb hby d20_42) rfl rfl ?_
  refine g_aloadN X2 hx (hb hby d20_43) rfl rfl ?_
  refine g_putF X2 hx hZ hown (Wd117 hw) e2 O_a3_2.2.2.2.2.2.1 O_a3_2.1 (Or.inl (Wd90 hw)) (Wd76 hw) fd_2 rfl rfl (hb hby d20_44) (fun T3 h3 X3 e3 W3 => ?_)
  have N3 := Fr.snoc X3 N2 g_a3
  have O_a1_3 := R_MP_other W3 O_a1_2 ne_a1_a3
  have O_a3_3 := R_ND_set_parent hw W3 O_a3_2
  have K3 := Keep.wr K2 W3 (mw 1 rfl)
  exact own_retV X3 hx hret hlk (hb hby d20_47) (by decide) (by decide) (by rw [e3]; exact ⟨rfl, N3, K3, O_a1_3, O_a3_3⟩)
theorem pd_22 : parseMethodDescriptor "(Lcom/example/rosewood/rosewood/RosewoodMap$Node;Lcom/example/rosewood/rosewood/RosewoodMap$Node;)V" = some ⟨[F1_, F1_], none⟩ := by decide +kernel
theorem lk23 {Z : State} {a0 : Array Value} (hw : HW a0 Z) : LkP "com/example/rosewood/rosewood/RosewoodMap" 293 Y24 7 B23 4 none [F1_, F1_] none a0 Z := ⟨(hw _ (List.mem_of_getElem? (i := 126) rfl)), (hw _ (List.mem_of_getElem? (i := 127) rfl)), (hw _ (List.mem_of_getElem? (i := 128) rfl)), (Wd2 hw), (hw _ (List.mem_of_getElem? (i := 129) rfl)), (Wd3 hw), by decide, pd_22⟩
theorem ef_21_R (m : MethodId) (x0 : Addr) : entryFrame m #[(.ref x0)] 1 = mkF m 0 #[vr x0] [] := by first | (simp [entryFrame, mkF, argsToLocals, Value.category]; done) | rfl
theorem d21_0 : decode B24 0 = .ok (.aload_n 0, 1) := by decide +kernel
theorem d21_1 : decode B24 1 = .ok (.getfield 285, 3) := by decide +kernel
theorem d21_4 : decode B24 4 = .ok (.ldc_w 289, 3) := by decide +kernel
theorem d21_7 : decode B24 7 = .ok (.iand, 1) := by decide +kernel
theorem d21_8 : decode B24 8 = .ok (.ireturn, 1) := by decide +kernel
theorem rm_leftCount_55 (hw : HW a0 Z) (a1 a2 : Addr) (a3 a4 a5 : Addr) (h0 : Heap) (n0 : Nat) (Z0 : n0 ≤ h0.size) (O_a1 : R_ND Z h0 a1 (.ref a2) (.ref a3) (.ref a4) (.ref a5) .null (.int 1)) :
    Ctr l Y25 B24 1 (some FieldType.int) [] (rmk 0 0 0 0) Z #[(.ref a1)] h0 (fun v h L => v = some (.int 1) ∧ Fr n0 L ∧ h = h0) := by
  refine own_enter pn_2 (fun p e s m below meth c s₁ hx hby hml hown hnm hret hlk hZ X0 e0 => ?_)
  have N0 := Fr.nil n0
  have K0 := Keep.refl h0 []
  rw [ef_21_R m _]
  refine g_aloadN X0 hx (hb hby d21_0) rfl rfl ?_
  refine g_getF X0 hx hZ hown (Wd94 hw) e0 O_a1.2.2.2.2.2.2 (hb hby d21_1) (fun T1 X1 e1 => ?_)
  refine g_ldcw X1 hx hZ hown (Wd95 hw) (hb hby d21_4) ?_
  refine g_iand X1 hx (hb hby d21_7) ?_
  show Go p e below (T1.setTop (mkF m 8 #[vr a1] [(.int ((1 : Int32) &&& (2147483647 : Int32)))])) _
  rw [show ((1 : Int32) &&& (2147483647 : Int32)) = (1 : Int32) from by decide]
  exact own_retI X1 hx hret hlk (hb hby d21_8) (by decide) (by decide) ⟨rfl, N0, e1⟩
theorem pd_23 : parseMethodDescriptor "(Lcom/example/rosewood/rosewood/RosewoodMap$Node;)I" = some ⟨[F1_], some FieldType.int⟩ := by decide +kernel
theorem lk24 {Z : State} {a0 : Array Value} (hw : HW a0 Z) : LkS "com/example/rosewood/rosewood/RosewoodMap" 229 Y25 B24 1 (some FieldType.int) [F1_] (some FieldType.int) a0 Z := ⟨(hw _ (List.mem_of_getElem? (i := 130) rfl)), (hw _ (List.mem_of_getElem? (i := 131) rfl)), (Wd3 hw), (hw _ (List.mem_of_getElem? (i := 132) rfl)), by decide, pd_23⟩
theorem rm_addToLeftCount_56 (hw : HW a0 Z) (a1 a2 : Addr) (a3 a4 : Addr) (h0 : Heap) (n0 : Nat) (Z0 : n0 ≤ h0.size) (O_a1 : R_ND Z h0 a1 (.ref a2) (.ref a3) .null .null (.ref a4) (.int (-2147483646))) (g_a1 : n0 ≤ a1) :
    Ctr l Y12 B11 2 none [] (rmk 0 0 0 0) Z #[(.ref a1), (.int (-2))] h0 (fun v h L => v = none ∧ Fr n0 L ∧ Keep h0 h [a1] ∧ R_ND Z h a1 (.ref a2) (.ref a3) .null .null (.ref a4) (.int (-2147483648))) := by
  refine own_enter pn_2 (fun p e s m below meth c s₁ hx hby hml hown hnm hret hlk hZ X0 e0 => ?_)
  have N0 := Fr.nil n0
  have K0 := Keep.refl h0 [a1]
  rw [ef_22_RI m _ _]
  refine g_aloadN X0 hx (hb hby d22_0) rfl rfl ?_
  refine g_dup X0 hx (hb hby d22_1) rfl ?_
  refine g_getF X0 hx hZ hown (Wd94 hw) e0 O_a1.2.2.2.2.2.2 (hb hby d22_2) (fun T1 X1 e1 => ?_)
  refine g_iloadN X1 hx (hb hby d22_5) rfl ?_
  refine g_iadd X1 hx (hb hby d22_6) ?_
  show Go p e below (T1.setTop (mkF m 7 #[vr a1, vi (-2)] [(.int ((-2147483646 : Int32) + (-2 : Int32))), (.ref a1)])) _
  rw [show ((-2147483646 : Int32) + (-2 : Int32)) = (-2147483648 : Int32) from by decide]
  refine g_putF X1 hx hZ hown (Wd94 hw) e1 O_a1.2.2.2.2.2.2 O_a1.1 (Or.inl (Wd84 hw)) (Wd76 hw) fd_0 rfl rfl (hb hby d22_7) (fun T2 h2 X2 e2 W2 => ?_)
  have N2 := Fr.snoc X2 N0 g_a1
  have O_a1_2 := R_ND_set_redAndLeftCount hw W2 O_a1
  have K2 := Keep.wr K0 W2 (mw 0 rfl)
  exact own_retV X2 hx hret hlk (hb hby d22_10) (by decide) (by decide) (by rw [e2]; exact ⟨rfl, N2, K2, O_a1_2⟩)
theorem ef_23_RR (m : MethodId) (x0 x1 : Addr) : entryFrame m #[(.ref x0), (.ref x1)] 2 = mkF m 0 #[vr x0, vr x1] [] := by first | (simp [entryFrame, mkF, argsToLocals, Value.category]; done) | rfl
theorem d23_0 : decode B25 0 = .ok (.return_, 1) := by decide +kernel
theorem rm_refresh_57 (hw : HW a0 Z) (a1 a2 : Addr) (h0 : Heap) (n0 : Nat) (Z0 : n0 ≤ h0.size)  :
    Ctr l Y26 B25 2 none [] (rmk 0 0 0 0) Z #[(.ref a1), (.ref a2)] h0 (fun v h L => v = none ∧ Fr n0 L ∧ h = h0) := by
  refine own_enter pn_2 (fun p e s m below meth c s₁ hx hby hml hown hnm hret hlk hZ X0 e0 => ?_)
  have N0 := Fr.nil n0
  have K0 := Keep.refl h0 []
  rw [ef_23_RR m _ _]
  exact own_retV X0 hx hret hlk (hb hby d23_0) (by decide) (by decide) ⟨rfl, N0, e0⟩
theorem lk25 {Z : State} {a0 : Array Value} (hw : HW a0 Z) : LkV "com/example/rosewood/rosewood/RosewoodMap" 297 Y26 "com/example/rosewood/rosewood/RosewoodMap" B25 2 none [F1_] none a0 Z := ⟨(hw _ (List.mem_of_getElem? (i := 136) rfl)), (hw _ (List.mem_of_getElem? (i := 137) rfl)), (hw _ (List.mem_of_getElem? (i := 139) rfl)), (hw _ (List.mem_of_getElem? (i := 138) rfl)), (hw _ (List.mem_of_getElem? (i := 140) rfl)), (Wd3 hw), by decide, pd_14⟩
theorem ef_32_RR (m : MethodId) (x0 x1 : Addr) : entryFrame m #[(.ref x0), (.ref x1)] 3 = mkF m 0 #[vr x0, vr x1, vu] [] := by first | (simp [entryFrame, mkF, argsToLocals, Value.category]; done) | rfl
theorem d32_0 : decode B26 0 = .ok (.aload_n 1, 1) := by decide +kernel
theorem d32_1 : decode B26 1 = .ok (.getfield 211, 3) := by decide +kernel
theorem d32_4 : decode B26 4 = .ok (.astore_n 2, 1) := by decide +kernel
theorem d32_5 : decode B26 5 = .ok (.aload_n 1, 1) := by decide +kernel
theorem d32_6 : decode B26 6 = .ok (.aload_n 2, 1) := by decide +kernel
theorem d32_7 : decode B26 7 = .ok (.getfield 214, 3) := by decide +kernel
theorem d32_10 : decode B26 10 = .ok (.putfield 211, 3) := by decide +kernel
theorem d32_13 : decode B26 13 = .ok (.aload_n 2, 1) := by decide +kernel
theorem d32_14 : decode B26 14 = .ok (.getfield 214, 3) := by decide +kernel
theorem d32_17 : decode B26 17 = .ok (.ifnull 11, 3) := by decide +kernel
theorem d32_28 : decode B26 28 = .ok (.aload_n 0, 1) := by decide +kernel
theorem d32_29 : decode B26 29 = .ok (.aload_n 1, 1) := by decide +kernel
theorem d32_30 : decode B26 30 = .ok (.aload_n 2, 1) := by decide +kernel
theorem d32_31 : decode B26 31 = .ok (.invokevirtual 293, 3) := by decide +kernel
theorem d32_34 : decode B26 34 = .ok (.aload_n 2, 1) := by decide +kernel
theorem d32_35 : decode B26 35 = .ok (.aload_n 1, 1) := by decide +kernel
theorem d32_36 : decode B26 36 = .ok (.putfield 214, 3) := by decide +kernel
theorem d32_39 : decode B26 39 = .ok (.aload_n 1, 1) := by decide +kernel
theorem d32_40 : decode B26 40 = .ok (.aload_n 2, 1) := by decide +kernel
theorem d32_41 : decode B26 41 = .ok (.putfield 282, 3) := by decide +kernel
theorem d32_44 : decode B26 44 = .ok (.aload_n 1, 1) := by decide +kernel
theorem d32_45 : decode B26 45 = .ok (.aload_n 2, 1) := by decide +kernel
theorem d32_46 : decode B26 46 = .ok (.invokestatic 229, 3) := by decide +kernel
theorem d32_49 : decode B26 49 = .ok (.ineg, 1) := by decide +kernel
theorem d32_50 : decode B26 50 = .ok (.iconst 1, 1) := by decide +kernel
theorem d32_51 : decode B26 51 = .ok (.isub, 1) := by decide +kernel
theorem d32_52 : decode B26 52 = .ok (.invokestatic 221, 3) := by decide +kernel
theorem d32_55 : decode B26 55 = .ok (.aload_n 0, 1) := by decide +kernel
theorem d32_56 : decode B26 56 = .ok (.aload_n 1, 1) := by decide +kernel
theorem d32_57 : decode B26 57 = .ok (.invokevirtual 297, 3) := by decide +kernel
theorem d32_60 : decode B26 60 = .ok (.aload_n 0, 1) := by decide +kernel
theorem d32_61 : decode B26 61 = .ok (.aload_n 2, 1) := by decide +kernel
theorem d32_62 : decode B26 62 = .ok (.invokevirtual 297, 3) := by decide +kernel
theorem d32_65 : decode B26 65 = .ok (.return_, 1) := by decide +kernel
theorem rm_rotateRight_53 (hw : HW a0 Z) (a1 a2 : Addr) (i1 : Int32) (a3 a4 a5 : Addr) (i2 : Int32) (a6 a7 a8 : Addr) (i3 i4 : Int32) (h0 : Heap) (n0 : Nat) (Z0 : n0 ≤ h0.size) (O_a1 : R_MP Z h0 a1 .null (.ref a2) (.int 3) (.int i1)) (O_a2 : R_ND Z h0 a2 (.ref a3) (.ref a4) (.ref a5) .null .null (.int (-2147483646))) (O_a5 : R_ND Z h0 a5 (.ref a6) (.ref a7) (.ref a8) .null (.ref a2) (.int 1)) (ne_a1_a2 : a1 ≠ a2) (ne_a1_a5 : a1 ≠ a5) (ne_a2_a5 : a2 ≠ a5) (g_a1 : n0 ≤ a1) (g_a2 : n0 ≤ a2) (g_a5 : n0 ≤ a5) (hk0 : i4 < i2) (hk1 : i4 < i3) :
    Ctr l Y27 B26 3 none [] (rmk 1 0 0 15) Z #[(.ref a1), (.ref a2)] h0 (fun v h L => v = none ∧ Fr n0 L ∧ Keep h0 h [a1, a2, a5] ∧ R_MP Z h a1 .null (.ref a5) (.int 3) (.int i1) ∧ R_ND Z h a2 (.ref a3) (.ref a4) .null .null (.ref a5) (.int (-2147483648)) ∧ R_ND Z h a5 (.ref a6) (.ref a7) (.ref a8) (.ref a2) .null (.int 1)) := by
  refine own_enter pn_2 (fun p e s m below meth c s₁ hx hby hml hown hnm hret hlk hZ X0 e0 => ?_)
  have D {q : Nat} {r} (z : decode B26 q = r) : decode c.code q = r := hb hby z
  have N0 := Fr.nil n0
  have K0 := Keep.refl h0 [a1, a2, a5]
  rw [ef_32_RR m _ _]
  refine g_aloadN X0 hx (D d32_0) rfl rfl ?_
  refine g_getF X0 hx hZ hown (Wd101 hw) e0 O_a2.2.2.2.1 (D d32_1) (fun T1 X1 e1 => ?_)
  refine g_astoreN X1 hx #[vr a1, vr a2, vr a5] (D d32_4) rfl rfl ?_
  refine g_aloadN X1 hx (D d32_5) rfl rfl ?_
  refine g_aloadN X1 hx (D d32_6) rfl rfl ?_
  refine g_getF X1 hx hZ hown (Wd103 hw) e1 O_a5.2.2.2.2.1 (D d32_7) (fun T2 X2 e2 => ?_)
  refine g_putF X2 hx hZ hown (Wd101 hw) e2 O_a2.2.2.2.1 O_a2.1 (Or.inl (Wd102 hw)) (Wd76 hw) fd_2 rfl rfl (D d32_10) (fun T3 h3 X3 e3 W3 => ?_)
  have N3 := Fr.snoc X3 N0 g_a2
  have O_a1_3 := R_MP_other W3 O_a1 ne_a1_a2
  have O_a2_3 := R_ND_set_left hw W3 O_a2
  have O_a5_3 := R_ND_other W3 O_a5 ne_a2_a5.symm
  have Z3 : n0 ≤ h3.size := Nat.le_trans Z0 (Nat.le_of_eq W3.size.symm)
  have K3 := Keep.wr K0 W3 (mw 1 rfl)
  refine g_aloadN X3 hx (D d32_13) rfl rfl ?_
  refine g_getF X3 hx hZ hown (Wd103 hw) e3 O_a5_3.2.2.2.2.1 (D d32_14) (fun T4 X4 e4 => ?_)
  refine g_nullYes X4 hx 28 (D d32_17) (by decide) (by decide) ?_
  refine g_aloadN X4 hx (D d32_28) rfl rfl ?_
  refine g_aloadN X4 hx (D d32_29) rfl rfl ?_
  refine g_aloadN X4 hx (D d32_30) rfl rfl ?_
  refine g_P X4 hx hZ hown (lk23 hw) (rm_replaceInParent_54 hw a1 a2 a5 i1 a3 a4 a6 a7 a8 i2 i3 i4 h3 n0 Z3 O_a1_3 O_a2_3 O_a5_3 ne_a1_a5 g_a1 g_a5 hk0 hk1) e4 O_a1_3.1 (D d32_31) hml.symm rfl rfl (Nat.le_refl _) (by decide) (fun v5 T5 L5 X5 q5 => ?_)
  obtain ⟨rfl, M5, Kc5, Rk5_0, Rk5_1⟩ := q5
  have N5 := Fr.app N3 M5
  have O_a2_5 := R_ND_keep O_a2_3 Kc5 (own_nin ne_a1_a2.symm (own_nin ne_a2_a5 nl))
  have K5 := Keep.trans K3 Kc5 (own_memc (mw 0 rfl) (own_memc (mw 2 rfl) own_memn))
  have Z5 : n0 ≤ T5.heap.size := Nat.le_trans Z3 Kc5.1
  refine g_aloadN X5 hx (D d32_34) rfl rfl ?_
  refine g_aloadN X5 hx (D d32_35) rfl rfl ?_
  refine g_putF X5 hx hZ hown (Wd103 hw) (rfl : T5.heap = T5.heap) Rk5_1.2.2.2.2.1 Rk5_1.1 (Or.inl (Wd104 hw)) (Wd76 hw) fd_2 rfl rfl (D d32_36) (fun T6 h6 X6 e6 W6 => ?_)
  have N6 := Fr.snoc X6 N5 g_a5
  have O_a2_6 := R_ND_other W6 O_a2_5 ne_a2_a5
  have O_a1_6 := R_MP_other W6 Rk5_0 ne_a1_a5
  have O_a5_6 := R_ND_set_right hw W6 Rk5_1
  have Z6 : n0 ≤ h6.size := Nat.le_trans Z5 (Nat.le_of_eq W6.size.symm)
  have K6 := Keep.wr K5 W6 (mw 2 rfl)
  refine g_aloadN X6 hx (D d32_39) rfl rfl ?_
  refine g_aloadN X6 hx (D d32_40) rfl rfl ?_
  refine g_putF X6 hx hZ hown (Wd117 hw) e6 O_a2_6.2.2.2.2.2.1 O_a2_6.1 (Or.inl (Wd90 hw)) (Wd76 hw) fd_2 rfl rfl (D d32_41) (fun T7 h7 X7 e7 W7 => ?_)
  have N7 := Fr.snoc X7 N6 g_a2
  have O_a2_7 := R_ND_set_parent hw W7 O_a2_6
  have O_a1_7 := R_MP_other W7 O_a1_6 ne_a1_a2
  have O_a5_7 := R_ND_other W7 O_a5_6 ne_a2_a5.symm
  have Z7 : n0 ≤ h7.size := Nat.le_trans Z6 (Nat.le_of_eq W7.size.symm)
  have K7 := Keep.wr K6 W7 (mw 1 rfl)
  refine g_aloadN X7 hx (D d32_44) rfl rfl ?_
  refine g_aloadN X7 hx (D d32_45) rfl rfl ?_
  refine g_S X7 hx hZ hown (lk24 hw) (rm_leftCount_55 hw a5 a6 a7 a8 a2 h7 n0 Z7 O_a5_7) e7 (D d32_46) hml.symm rfl (rest := [(.ref a2)]) rfl (W := 1) (Nat.le_of_eq rfl) (by decide) (fun v8 T8 L8 X8 q8 => ?_)
  obtain ⟨rfl, M8, e8⟩ := q8
  have N8 := Fr.app N7 M8
  refine Go.mp (fun _ k => XS.ineg X8.here hx rfl (D d32_49) rfl k) ?_
  show Go p e below (T8.setTop (mkF m 50 #[vr a1, vr a2, vr a5] [(.int (-(1 : Int32))), (.ref a2)])) _
  refine g_iconst X8 hx (1 : Int32) (D d32_50) (by decide) ?_
  refine g_isub X8 hx (D d32_51) ?_
  show Go p e below (T8.setTop (mkF m 52 #[vr a1, vr a2, vr a5] [(.int ((-(1 : Int32)) - (1 : Int32))), (.ref a2)])) _
  rw [show ((-(1 : Int32)) - (1 : Int32)) = (-2 : Int32) from by decide]
  refine g_S X8 hx hZ hown (lk11 hw) (rm_addToLeftCount_56 hw a2 a3 a4 a5 h7 n0 Z7 O_a2_7 g_a2) e8 (D d32_52) hml.symm rfl rfl (Nat.le_refl _) (by decide) (fun v9 T9 L9 X9 q9 => ?_)
  obtain ⟨rfl, M9, Kc9, Rk9_0⟩ := q9
  have N9 := Fr.app N8 M9
  have O_a1_9 := R_MP_keep O_a1_7 Kc9 (own_nin ne_a1_a2 nl)
  have O_a5_9 := R_ND_keep O_a5_7 Kc9 (own_nin ne_a2_a5.symm nl)
  have K9 := Keep.trans K7 Kc9 (own_memc (mw 1 rfl) own_memn)
  have Z9 : n0 ≤ T9.heap.size := Nat.le_trans Z7 Kc9.1
  refine g_aloadN X9 hx (D d32_55) rfl rfl ?_
  refine g_aloadN X9 hx (D d32_56) rfl rfl ?_
  refine g_V X9 hx hZ hown (lk25 hw) (rm_refresh_57 hw a1 a2 T9.heap n0 Z9 ) (rfl : T9.heap = T9.heap) O_a1_9.1 (D d32_57) hml.symm rfl rfl (Nat.le_refl _) (by decide) (fun v10 T10 L10 X10 q10 => ?_)
  obtain ⟨rfl, M10, e10⟩ := q10
  have N10 := Fr.app N9 M10
  refine g_aloadN X10 hx (D d32_60) rfl rfl ?_
  refine g_aloadN X10 hx (D d32_61) rfl rfl ?_
  refine g_V X10 hx hZ hown (lk25 hw) (rm_refresh_57 hw a1 a5 T9.heap n0 Z9 ) e10 O_a1_9.1 (D d32_62) hml.symm rfl rfl (Nat.le_refl _) (by decide) (fun v11 T11 L11 X11 q11 => ?_)
  obtain ⟨rfl, M11, e11⟩ := q11
  have N11 := Fr.app N10 M11
  exact own_retV X11 hx hret hlk (D d32_65) (by decide) (by decide) (by rw [e11]; exact ⟨rfl, N11, K9, O_a1_9, Rk9_0, O_a5_9⟩)
theorem lk26 {Z : State} {a0 : Array Value} (hw : HW a0 Z) : LkP "com/example/rosewood/rosewood/RosewoodMap" 307 Y27 7 B26 3 none [F1_] none a0 Z := ⟨(hw _ (List.mem_of_getElem? (i := 180) rfl)), (hw _ (List.mem_of_getElem? (i := 181) rfl)), (hw _ (List.mem_of_getElem? (i := 182) rfl)), (Wd2 hw), (hw _ (List.mem_of_getElem? (i := 183) rfl)), (Wd3 hw), by decide, pd_14⟩
theorem rm_isRed_58 (hw : HW a0 Z) (a1 a2 : Addr) (a3 a4 a5 : Addr) (h0 : Heap) (n0 : Nat) (Z0 : n0 ≤ h0.size) (O_a1 : R_ND Z h0 a1 (.ref a2) (.ref a3) (.ref a4) (.ref a5) .null (.int 1)) :
    Ctr l Y16 B15 1 (some FieldType.boolean) [] (rmk 0 0 0 0) Z #[(.ref a1)] h0 (fun v h L => v = some (.int 0) ∧ Fr n0 L ∧ h = h0) := by
  refine own_enter pn_2 (fun p e s m below meth c s₁ hx hby hml hown hnm hret hlk hZ X0 e0 => ?_)
  have N0 := Fr.nil n0
  have K0 := Keep.refl h0 []
  rw [ef_18_R m _]
  refine g_aloadN X0 hx (hb hby d18_0) rfl rfl ?_
  refine g_nullNo X0 hx (hb hby d18_1) ?_
  refine g_aloadN X0 hx (hb hby d18_4) rfl rfl ?_
  refine g_getF X0 hx hZ hown (Wd94 hw) e0 O_a1.2.2.2.2.2.2 (hb hby d18_5) (fun T1 X1 e1 => ?_)
  refine g_ifYes X1 hx 15 (hb hby d18_8) ((if0 _ _).trans (flt ((by decide) : ¬ ((1 : Int32) < (0 : Int32)))).2.1) (by decide) (by decide) ?_
  refine g_iconst X1 hx (0 : Int32) (hb hby d18_15) (by decide) ?_
  exact own_retZ X1 hx hret hlk (hb hby d18_16) (by decide) (by decide) (by decide) ⟨rfl, N0, e1⟩
theorem rm_setRed_59 (hw : HW a0 Z) (a1 a2 : Addr) (a3 a4 a5 : Addr) (h0 : Heap) (n0 : Nat) (Z0 : n0 ≤ h0.size) (O_a1 : R_ND Z h0 a1 (.ref a2) (.ref a3) (.ref a4) (.ref a5) .null (.int 1)) (g_a1 : n0 ≤ a1) :
    Ctr l Y17 B16 2 none [] (rmk 0 0 0 0) Z #[(.ref a1), (.int 0)] h0 (fun v h L => v = none ∧ Fr n0 L ∧ Keep h0 h [a1] ∧ R_ND Z h a1 (.ref a2) (.ref a3) (.ref a4) (.ref a5) .null (.int 1)) := by
  refine own_enter pn_2 (fun p e s m below meth c s₁ hx hby hml hown hnm hret hlk hZ X0 e0 => ?_)
  have N0 := Fr.nil n0
  have K0 := Keep.refl h0 [a1]
  rw [ef_14_RI m _ _]
  refine g_aloadN X0 hx (hb hby d14_0) rfl rfl ?_
  refine g_iloadN X0 hx (hb hby d14_1) rfl ?_
  refine g_ifYes X0 hx 16 (hb hby d14_2) ((if0 _ _).trans (teq ((by decide) : (0 : Int32) = (0 : Int32))).1) (by decide) (by decide) ?_
  refine g_aloadN X0 hx (hb hby d14_16) rfl rfl ?_
  refine g_getF X0 hx hZ hown (Wd94 hw) e0 O_a1.2.2.2.2.2.2 (hb hby d14_17) (fun T1 X1 e1 => ?_)
  refine g_ldcw X1 hx hZ hown (Wd95 hw) (hb hby d14_20) ?_
  refine g_iand X1 hx (hb hby d14_23) ?_
  show Go p e below (T1.setTop (mkF m 24 #[vr a1, vi 0] [(.int ((1 : Int32) &&& (2147483647 : Int32))), (.ref a1)])) _
  rw [show ((1 : Int32) &&& (2147483647 : Int32)) = (1 : Int32) from by decide]
  refine g_putF X1 hx hZ hown (Wd94 hw) e1 O_a1.2.2.2.2.2.2 O_a1.1 (Or.inl (Wd84 hw)) (Wd76 hw) fd_0 rfl rfl (hb hby d14_24) (fun T2 h2 X2 e2 W2 => ?_)
  have N2 := Fr.snoc X2 N0 g_a1
  have O_a1_2 := R_ND_set_redAndLeftCount hw W2 O_a1
  have K2 := Keep.wr K0 W2 (mw 0 rfl)
  exact own_retV X2 hx hret hlk (hb hby d14_27) (by decide) (by decide) (by rw [e2]; exact ⟨rfl, N2, K2, O_a1_2⟩)
theorem d17_12 : decode B17 12 = .ok (.aload_n 2, 1) := by decide +kernel
theorem d17_13 : decode B17 13 = .ok (.getfield 282, 3) := by decide +kernel
theorem d17_16 : decode B17 16 = .ok (.astore_n 3, 1) := by decide +kernel
theorem d17_17 : decode B17 17 = .ok (.aload_n 3, 1) := by decide +kernel
theorem d17_18 : decode B17 18 = .ok (.getfield 282, 3) := by decide +kernel
theorem d17_21 : decode B17 21 = .ok (.astore 4, 2) := by decide +kernel
theorem d17_23 : decode B17 23 = .ok (.aload_n 3, 1) := by decide +kernel
theorem d17_24 : decode B17 24 = .ok (.aload 4, 2) := by decide +kernel
theorem d17_26 : decode B17 26 = .ok (.getfield 211, 3) := by decide +kernel
theorem d17_29 : decode B17 29 = .ok (.if_acmp .ne 81, 3) := by decide +kernel
theorem d17_32 : decode B17 32 = .ok (.aload 4, 2) := by decide +kernel
theorem d17_34 : decode B17 34 = .ok (.getfield 214, 3) := by decide +kernel
theorem d17_37 : decode B17 37 = .ok (.astore 5, 2) := by decide +kernel
theorem d17_39 : decode B17 39 = .ok (.aload 5, 2) := by decide +kernel
theorem d17_41 : decode B17 41 = .ok (.invokestatic 300, 3) := by decide +kernel
theorem d17_44 : decode B17 44 = .ok (.ifCond .eq 26, 3) := by decide +kernel
theorem d17_70 : decode B17 70 = .ok (.aload_n 2, 1) := by decide +kernel
theorem d17_71 : decode B17 71 = .ok (.aload_n 3, 1) := by decide +kernel
theorem d17_72 : decode B17 72 = .ok (.getfield 214, 3) := by decide +kernel
theorem d17_75 : decode B17 75 = .ok (.if_acmp .ne 15, 3) := by decide +kernel
theorem d17_90 : decode B17 90 = .ok (.aload_n 3, 1) := by decide +kernel
theorem d17_91 : decode B17 91 = .ok (.iconst 0, 1) := by decide +kernel
theorem d17_92 : decode B17 92 = .ok (.invokestatic 237, 3) := by decide +kernel
theorem d17_95 : decode B17 95 = .ok (.aload 4, 2) := by decide +kernel
theorem d17_97 : decode B17 97 = .ok (.iconst 1, 1) := by decide +kernel
theorem d17_98 : decode B17 98 = .ok (.invokestatic 237, 3) := by decide +kernel
theorem d17_101 : decode B17 101 = .ok (.aload_n 0, 1) := by decide +kernel
theorem d17_102 : decode B17 102 = .ok (.aload 4, 2) := by decide +kernel
theorem d17_104 : decode B17 104 = .ok (.invokevirtual 307, 3) := by decide +kernel
theorem d17_107 : decode B17 107 = .ok (.goto 78, 3) := by decide +kernel
theorem d17_185 : decode B17 185 = .ok (.goto (-183), 3) := by decide +kernel
theorem rm_balanceAfterInsert_48 (hw : HW a0 Z) (a1 a2 a3 : Addr) (i1 : Int32) (a4 a5 : Addr) (a6 a7 a8 : Addr) (i2 : Int32) (a9 a10 : Addr) (i3 i4 : Int32) (h0 : Heap) (n0 : Nat) (Z0 : n0 ≤ h0.size) (O_a1 : R_MP Z h0 a1 .null (.ref a3) (.int 3) (.int i1)) (O_a2 : R_ND Z h0 a2 (.ref a4) (.ref a5) .null .null (.ref a6) (.int (-2147483648))) (O_a3 : R_ND Z h0 a3 (.ref a7) (.ref a8) (.ref a6) .null .null (.int 2)) (O_a6 : R_ND Z h0 a6 (.ref a9) (.ref a10) (.ref a2) .null (.ref a3) (.int (-2147483647))) (ne_a1_a2 : a1 ≠ a2) (ne_a1_a3 : a1 ≠ a3) (ne_a1_a6 : a1 ≠ a6) (ne_a2_a3 : a2 ≠ a3) (ne_a2_a6 : a2 ≠ a6) (ne_a3_a6 : a3 ≠ a6) (g_a1 : n0 ≤ a1) (g_a3 : n0 ≤ a3) (g_a6 : n0 ≤ a6) (hk0 : i2 < i3) (hk1 : i2 < i4) :
    Ctr l Y18 B17 6 none [] (rmk 2 0 0 29) Z #[(.ref a1), (.ref a2)] h0 (fun v h L => v = none ∧ Fr n0 L ∧ Keep h0 h [a1, a3, a6] ∧ R_MP Z h a1 .null (.ref a6) (.int 3) (.int i1) ∧ R_ND Z h a3 (.ref a7) (.ref a8) .null .null (.ref a6) (.int (-2147483648)) ∧ R_ND Z h a6 (.ref a9) (.ref a10) (.ref a2) (.ref a3) .null (.int 1)) := by
  refine own_enter pn_2 (fun p e s m below meth c s₁ hx hby hml hown hnm hret hlk hZ X0 e0 => ?_)
  have D {q : Nat} {r} (z : decode B17 q = r) : decode c.code q = r := hb hby z
  have N0 := Fr.nil n0
  have K0 := Keep.refl h0 [a1, a3, a6]
  rw [ef_17_RR m _ _]
  refine g_aloadN X0 hx (D d17_0) rfl rfl ?_
  refine g_astoreN X0 hx #[vr a1, vr a2, vr a2, vu, vu, vu] (D d17_1) rfl rfl ?_
  refine g_aloadN X0 hx (D d17_2) rfl rfl ?_
  refine g_getF X0 hx hZ hown (Wd117 hw) e0 O_a2.2.2.2.2.2.1 (D d17_3) (fun T1 X1 e1 => ?_)
  refine g_S X1 hx hZ hown (lk15 hw) (rm_isRed_49 hw a6 a9 a10 a2 a3 h0 n0 Z0 O_a6) e1 (D d17_6) hml.symm rfl rfl (Nat.le_refl _) (by decide) (fun v2 T2 L2 X2 q2 => ?_)
  obtain ⟨rfl, M2, e2⟩ := q2
  have N2 := Fr.app N0 M2
  refine g_ifNo X2 hx (D d17_9) ((if0 _ _).trans (feq ((by decide) : ¬ ((1 : Int32) = (0 : Int32)))).1) ?_
  refine g_aloadN X2 hx (D d17_12) rfl rfl ?_
  refine g_getF X2 hx hZ hown (Wd117 hw) e2 O_a2.2.2.2.2.2.1 (D d17_13) (fun T3 X3 e3 => ?_)
  refine g_astoreN X3 hx #[vr a1, vr a2, vr a2, vr a6, vu, vu] (D d17_16) rfl rfl ?_
  refine g_aloadN X3 hx (D d17_17) rfl rfl ?_
  refine g_getF X3 hx hZ hown (Wd117 hw) e3 O_a6.2.2.2.2.2.1 (D d17_18) (fun T4 X4 e4 => ?_)
  refine g_astore X4 hx #[vr a1, vr a2, vr a2, vr a6, vr a3, vu] (D d17_21) rfl rfl ?_
  refine g_aloadN X4 hx (D d17_23) rfl rfl ?_
  refine g_aload X4 hx (D d17_24) rfl rfl ?_
  refine g_getF X4 hx hZ hown (Wd101 hw) e4 O_a3.2.2.2.1 (D d17_26) (fun T5 X5 e5 => ?_)
  have c29_0 : a6 = a6 := rfl
  refine g_acmp X5 hx 32 true rfl rfl (D d17_29) (decide_eq_true (congrArg Value.ref c29_0)) (by decide) (by decide) ?_
  refine g_aload X5 hx (D d17_32) rfl rfl ?_
  refine g_getF X5 hx hZ hown (Wd103 hw) e5 O_a3.2.2.2.2.1 (D d17_34) (fun T6 X6 e6 => ?_)
  refine g_astore X6 hx #[vr a1, vr a2, vr a2, vr a6, vr a3, vn] (D d17_37) rfl rfl ?_
  refine g_aload X6 hx (D d17_39) rfl rfl ?_
  refine g_S X6 hx hZ hown (lk15 hw) (rm_isRed_50 hw  h0 n0 Z0 ) e6 (D d17_41) hml.symm rfl rfl (Nat.le_refl _) (by decide) (fun v7 T7 L7 X7 q7 => ?_)
  obtain ⟨rfl, M7, e7⟩ := q7
  have N7 := Fr.app N2 M7
  refine g_ifYes X7 hx 70 (D d17_44) ((if0 _ _).trans (teq ((by decide) : (0 : Int32) = (0 : Int32))).1) (by decide) (by decide) ?_
  refine g_aloadN X7 hx (D d17_70) rfl rfl ?_
  refine g_aloadN X7 hx (D d17_71) rfl rfl ?_
  refine g_getF X7 hx hZ hown (Wd103 hw) e7 O_a6.2.2.2.2.1 (D d17_72) (fun T8 X8 e8 => ?_)
  refine g_acmp X8 hx 90 false rfl rfl (D d17_75) (decide_eq_false nofun) (by decide) (by decide) ?_
  refine g_aloadN X8 hx (D d17_90) rfl rfl ?_
  refine g_iconst X8 hx (0 : Int32) (D d17_91) (by decide) ?_
  refine g_S X8 hx hZ hown (lk16 hw) (rm_setRed_51 hw a6 a9 a10 a2 a3 h0 n0 Z0 O_a6 g_a6) e8 (D d17_92) hml.symm rfl rfl (Nat.le_refl _) (by decide) (fun v9 T9 L9 X9 q9 => ?_)
  obtain ⟨rfl, M9, Kc9, Rk9_0⟩ := q9
  have N9 := Fr.app N7 M9
  have O_a1_9 := R_MP_keep O_a1 Kc9 (own_nin ne_a1_a6 nl)
  have O_a2_9 := R_ND_keep O_a2 Kc9 (own_nin ne_a2_a6 nl)
  have O_a3_9 := R_ND_keep O_a3 Kc9 (own_nin ne_a3_a6 nl)
  have K9 := Keep.trans K0 Kc9 (own_memc (mw 2 rfl) own_memn)
  have Z9 : n0 ≤ T9.heap.size := Nat.le_trans Z0 Kc9.1
  refine g_aload X9 hx (D d17_95) rfl rfl ?_
  refine g_iconst X9 hx (1 : Int32) (D d17_97) (by decide) ?_
  refine g_S X9 hx hZ hown (lk16 hw) (rm_setRed_52 hw a3 a7 a8 a6 T9.heap n0 Z9 O_a3_9 g_a3) (rfl : T9.heap = T9.heap) (D d17_98) hml.symm rfl rfl (Nat.le_refl _) (by decide) (fun v10 T10 L10 X10 q10 => ?_)
  obtain ⟨rfl, M10, Kc10, Rk10_0⟩ := q10
  have N10 := Fr.app N9 M10
  have O_a1_10 := R_MP_keep O_a1_9 Kc10 (own_nin ne_a1_a3 nl)
  have O_a2_10 := R_ND_keep O_a2_9 Kc10 (own_nin ne_a2_a3 nl)
  have O_a6_10 := R_ND_keep Rk9_0 Kc10 (own_nin ne_a3_a6.symm nl)
  have K10 := Keep.trans K9 Kc10 (own_memc (mw 1 rfl) own_memn)
  have Z10 : n0 ≤ T10.heap.size := Nat.le_trans Z9 Kc10.1
  refine g_aloadN X10 hx (D d17_101) rfl rfl ?_
  refine g_aload X10 hx (D d17_102) rfl rfl ?_
  refine g_P X10 hx hZ hown (lk26 hw) (rm_rotateRight_53 hw a1 a3 i1 a7 a8 a6 i3 a9 a10 a2 i4 i2 T10.heap n0 Z10 O_a1_10 Rk10_0 O_a6_10 ne_a1_a3 ne_a1_a6 ne_a3_a6 g_a1 g_a3 g_a6 hk0 hk1) (rfl : T10.heap = T10.heap) O_a1_10.1 (D d17_104) hml.symm rfl rfl (Nat.le_refl _) (by decide) (fun v11 T11 L11 X11 q11 => ?_)
  obtain ⟨rfl, M11, Kc11, Rk11_0, Rk11_1, Rk11_2⟩ := q11
  have N11 := Fr.app N10 M11
  have O_a2_11 := R_ND_keep O_a2_10 Kc11 (own_nin ne_a1_a2.symm (own_nin ne_a2_a3 (own_nin ne_a2_a6 nl)))
  have K11 := Keep.trans K10 Kc11 (own_memc (mw 0 rfl) (own_memc (mw 1 rfl) (own_memc (mw 2 rfl) own_memn)))
  have Z11 : n0 ≤ T11.heap.size := Nat.le_trans Z10 Kc11.1
  refine g_goto X11 hx 185 (D d17_107) (by decide) (by decide) ?_
  refine g_goto X11 hx 2 (D d17_185) (by decide) (by decide) ?_
  refine g_aloadN X11 hx (D d17_2) rfl rfl ?_
  refine g_getF X11 hx hZ hown (Wd117 hw) (rfl : T11.heap = T11.heap) O_a2_11.2.2.2.2.2.1 (D d17_3) (fun T12 X12 e12 => ?_)
  refine g_S X12 hx hZ hown (lk15 hw) (rm_isRed_58 hw a6 a9 a10 a2 a3 T11.heap n0 Z11 Rk11_2) e12 (D d17_6) hml.symm rfl rfl (Nat.le_refl _) (by decide) (fun v13 T13 L13 X13 q13 => ?_)
  obtain ⟨rfl, M13, e13⟩ := q13
  have N13 := Fr.app N11 M13
  refine g_ifYes X13 hx 188 (D d17_9) ((if0 _ _).trans (teq ((by decide) : (0 : Int32) = (0 : Int32))).1) (by decide) (by decide) ?_
  refine g_aloadN X13 hx (D d17_188) rfl rfl ?_
  refine g_getF X13 hx hZ hown (Wd25 hw) e13 Rk11_0.2.2.1 (D d17_189) (fun T14 X14 e14 => ?_)
  refine g_iconst X14 hx (0 : Int32) (D d17_192) (by decide) ?_
  refine g_S X14 hx hZ hown (lk16 hw) (rm_setRed_59 hw a6 a9 a10 a2 a3 T11.heap n0 Z11 Rk11_2 g_a6) e14 (D d17_193) hml.symm rfl rfl (Nat.le_refl _) (by decide) (fun v15 T15 L15 X15 q15 => ?_)
  obtain ⟨rfl, M15, Kc15, Rk15_0⟩ := q15
  have N15 := Fr.app N13 M15
  have O_a1_15 := R_MP_keep Rk11_0 Kc15 (own_nin ne_a1_a6 nl)
  have O_a3_15 := R_ND_keep Rk11_1 Kc15 (own_nin ne_a3_a6 nl)
  have K15 := Keep.trans K11 Kc15 (own_memc (mw 2 rfl) own_memn)
  exact own_retV X15 hx hret hlk (D d17_196) (by decide) (by decide) (by rw [(rfl : T15.heap = T15.heap)]; exact ⟨rfl, N15, K15, O_a1_15, O_a3_15, Rk15_0⟩)
theorem rm_addIfAbsent_43 (hw : HW a0 Z) (a1 a2 : Addr) (a3 a4 : Addr) (i1 i2 : Int32) (a5 a6 a7 : Addr) (i3 : Int32) (a8 a9 : Addr) (i4 : Int32) (h0 : Heap) (n0 : Nat) (Z0 : n0 ≤ h0.size) (O_a1 : R_MP Z h0 a1 .null (.ref a4) (.int 2) (.int i1)) (O_a2 : R_IN Z h0 a2 (.int i2)) (O_a4 : R_ND Z h0 a4 (.ref a5) (.ref a6) (.ref a7) .null .null (.int 1)) (O_a5 : R_IN Z h0 a5 (.int i3)) (O_a7 : R_ND Z h0 a7 (.ref a8) (.ref a9) .null .null (.ref a4) (.int (-2147483648))) (O_a8 : R_IN Z h0 a8 (.int i4)) (ne_a1_a4 : a1 ≠ a4) (ne_a1_a7 : a1 ≠ a7) (ne_a2_a4 : a2 ≠ a4) (ne_a4_a7 : a4 ≠ a7) (ne_a4_a8 : a4 ≠ a8) (g_a1 : n0 ≤ a1) (g_a4 : n0 ≤ a4) (g_a7 : n0 ≤ a7) (hk0 : i2 < i3) (hk1 : i2 < i4) :
    CtrH l Y19 B18 15 (some F1_) [(71, 122, 210, 0), (137, 195, 210, 0), (210, 212, 210, 0)] (rmk 4 1 6 53) Z #[(.ref a1), (.ref a2), (.ref a3)] h0 (fun v h L => ∃ f1, v = some .null ∧ Fr n0 L ∧ Keep h0 h [a1, a4, a7] ∧ h0.size ≤ f1 ∧ R_MP Z h a1 .null (.ref a7) (.int 3) (.int (i1 + (1 : Int32))) ∧ R_ND Z h a4 (.ref a5) (.ref a6) .null .null (.ref a7) (.int (-2147483648)) ∧ R_ND Z h a7 (.ref a8) (.ref a9) (.ref f1) (.ref a4) .null (.int 1) ∧ R_ND Z h f1 (.ref a2) (.ref a3) .null .null (.ref a7) (.int (-2147483648))) := by
  refine own_enterH pn_2 (fun p e s m below meth c s₁ hx hby hml hown hnm hret hlk hZ X0 e0 => ?_)
  have D {q : Nat} {r} (z : decode B18 q = r) : decode c.code q = r := hb hby z
  have N0 := Fr.nil n0
  have K0 := Keep.refl h0 [a1, a4, a7]
  rw [ef_33_RRR m _ _ _]
  refine g_aloadN X0 hx (D d33_0) rfl rfl ?_
  refine g_getF X0 hx hZ hown (Wd25 hw) e0 O_a1.2.2.1 (D d33_1) (fun T1 X1 e1 => ?_)
  refine g_nonnullYes X1 hx 50 (D d33_4) (by decide) (by decide) ?_
  refine g_null X1 hx (D d33_50) ?_
  refine g_astoreN X1 hx #[vr a1, vr a2, vr a3, vn, vu, vu, vu, vu, vu, vu, vu, vu, vu, vu, vu] (D d33_51) rfl rfl ?_
  refine g_iconst X1 hx (0 : Int32) (D d33_52) (by decide) ?_
  refine g_istore X1 hx #[vr a1, vr a2, vr a3, vn, vi 0, vu, vu, vu, vu, vu, vu, vu, vu, vu, vu] (D d33_53) rfl ?_
  refine g_aloadN X1 hx (D d33_55) rfl rfl ?_
  refine g_getF X1 hx hZ hown (Wd25 hw) e1 O_a1.2.2.1 (D d33_56) (fun T2 X2 e2 => ?_)
  refine g_astore X2 hx #[vr a1, vr a2, vr a3, vn, vi 0, vr a4, vu, vu, vu, vu, vu, vu, vu, vu, vu] (D d33_59) rfl rfl ?_
  refine g_aload X2 hx (D d33_61) rfl rfl ?_
  refine g_getF X2 hx hZ hown (Wd100 hw) e2 O_a4.2.1 (D d33_63) (fun T3 X3 e3 => ?_)
  refine g_astore X3 hx #[vr a1, vr a2, vr a3, vn, vi 0, vr a4, vr a5, vu, vu, vu, vu, vu, vu, vu, vu] (D d33_66) rfl rfl ?_
  refine g_null X3 hx (D d33_68) ?_
  refine g_astore X3 hx #[vr a1, vr a2, vr a3, vn, vi 0, vr a4, vr a5, vn, vu, vu, vu, vu, vu, vu, vu] (D d33_69) rfl rfl ?_
  refine g_aload X3 hx (D d33_71) rfl rfl ?_
  refine g_nullNo X3 hx (D d33_73) ?_
  refine g_aload X3 hx (D d33_76) rfl rfl ?_
  refine g_getF X3 hx hZ hown (Wd101 hw) e3 O_a4.2.2.2.1 (D d33_78) (fun T4 X4 e4 => ?_)
  refine g_astore X4 hx #[vr a1, vr a2, vr a3, vn, vi 0, vr a4, vr a5, vn, vr a7, vu, vu, vu, vu, vu, vu] (D d33_81) rfl rfl ?_
  refine g_aload X4 hx (D d33_83) rfl rfl ?_
  refine g_getF X4 hx hZ hown (Wd103 hw) e4 O_a4.2.2.2.2.1 (D d33_85) (fun T5 X5 e5 => ?_)
  refine g_astore X5 hx #[vr a1, vr a2, vr a3, vn, vi 0, vr a4, vr a5, vn, vr a7, vn, vu, vu, vu, vu, vu] (D d33_88) rfl rfl ?_
  refine g_aload X5 hx (D d33_90) rfl rfl ?_
  refine g_S X5 hx hZ hown (lk6 hw) (rm_keyOf_44 hw a7 a8 a9 a4 h0 n0 Z0 O_a7) e5 (D d33_92) hml.symm rfl rfl (Nat.le_refl _) (by decide) (fun v6 T6 L6 X6 q6 => ?_)
  obtain ⟨rfl, M6, e6⟩ := q6
  have N6 := Fr.app N0 M6
  refine g_astore X6 hx #[vr a1, vr a2, vr a3, vn, vi 0, vr a4, vr a5, vn, vr a7, vn, vr a8, vu, vu, vu, vu] (D d33_95) rfl rfl ?_
  refine g_aload X6 hx (D d33_97) rfl rfl ?_
  refine g_S X6 hx hZ hown (lk6 hw) (rm_keyOf_12 hw  h0 n0 Z0 ) e6 (D d33_99) hml.symm rfl rfl (Nat.le_refl _) (by decide) (fun v7 T7 L7 X7 q7 => ?_)
  obtain ⟨rfl, M7, e7⟩ := q7
  have N7 := Fr.app N6 M7
  refine g_astore X7 hx #[vr a1, vr a2, vr a3, vn, vi 0, vr a4, vr a5, vn, vr a7, vn, vr a8, vn, vu, vu, vu] (D d33_102) rfl rfl ?_
  refine g_aloadN X7 hx (D d33_104) rfl rfl ?_
  refine g_aloadN X7 hx (D d33_105) rfl rfl ?_
  refine g_aload X7 hx (D d33_106) rfl rfl ?_
  refine g_V X7 hx hZ hown (lk10 hw) (rm_compare_45 hw a1 a2 a5 a4 i1 i2 i3 h0 n0 Z0 O_a1 O_a2 O_a5 hk0) e7 O_a1.1 (D d33_108) hml.symm rfl rfl (Nat.le_refl _) (by decide) (fun v8 T8 L8 X8 q8 => ?_)
  obtain ⟨rfl, M8, e8⟩ := q8
  have N8 := Fr.app N7 M8
  refine g_istore X8 hx #[vr a1, vr a2, vr a3, vn, vi 0, vr a4, vr a5, vn, vr a7, vn, vr a8, vn, vi (-1), vu, vu] (D d33_111) rfl ?_
  refine g_iload X8 hx (D d33_113) rfl ?_
  refine g_ifYes X8 hx 137 (D d33_115) ((if0 _ _).trans (feq ((by decide) : ¬ ((-1 : Int32) = (0 : Int32)))).2) (by decide) (by decide) ?_
  refine g_aload X8 hx (D d33_137) rfl rfl ?_
  refine g_astoreN X8 hx #[vr a1, vr a2, vr a3, vr a4, vi 0, vr a4, vr a5, vn, vr a7, vn, vr a8, vn, vi (-1), vu, vu] (D d33_139) rfl rfl ?_
  refine g_iload X8 hx (D d33_140) rfl ?_
  refine g_istore X8 hx #[vr a1, vr a2, vr a3, vr a4, vi (-1), vr a4, vr a5, vn, vr a7, vn, vr a8, vn, vi (-1), vu, vu] (D d33_142) rfl ?_
  refine g_iload X8 hx (D d33_144) rfl ?_
  refine g_ifNo X8 hx (D d33_146) ((if0 _ _).trans (tlt ((by decide) : (-1 : Int32) < (0 : Int32))).2.1) ?_
  refine g_aload X8 hx (D d33_149) rfl rfl ?_
  refine g_iconst X8 hx (1 : Int32) (D d33_151) (by decide) ?_
  refine g_S X8 hx hZ hown (lk11 hw) (rm_addToLeftCount_46 hw a4 a5 a6 a7 h0 n0 Z0 O_a4 g_a4) e8 (D d33_152) hml.symm rfl rfl (Nat.le_refl _) (by decide) (fun v9 T9 L9 X9 q9 => ?_)
  obtain ⟨rfl, M9, Kc9, Rk9_0⟩ := q9
  have N9 := Fr.app N8 M9
  have O_a1_9 := R_MP_keep O_a1 Kc9 (own_nin ne_a1_a4 nl)
  have O_a2_9 := R_IN_keep O_a2 Kc9 (own_nin ne_a2_a4 nl)
  have O_a7_9 := R_ND_keep O_a7 Kc9 (own_nin ne_a4_a7.symm nl)
  have O_a8_9 := R_IN_keep O_a8 Kc9 (own_nin ne_a4_a8.symm nl)
  have K9 := Keep.trans K0 Kc9 (own_memc (mw 1 rfl) own_memn)
  have Z9 : n0 ≤ T9.heap.size := Nat.le_trans Z0 Kc9.1
  refine g_iload X9 hx (D d33_155) rfl ?_
  refine g_ifNo X9 hx (D d33_157) ((if0 _ _).trans (tlt ((by decide) : (-1 : Int32) < (0 : Int32))).2.1) ?_
  refine g_aload X9 hx (D d33_160) rfl rfl ?_
  refine g_goto X9 hx 167 (D d33_162) (by decide) (by decide) ?_
  refine g_astore X9 hx #[vr a1, vr a2, vr a3, vr a4, vi (-1), vr a7, vr a5, vn, vr a7, vn, vr a8, vn, vi (-1), vu, vu] (D d33_167) rfl rfl ?_
  refine g_iload X9 hx (D d33_169) rfl ?_
  refine g_ifNo X9 hx (D d33_171) ((if0 _ _).trans (tlt ((by decide) : (-1 : Int32) < (0 : Int32))).2.1) ?_
  refine g_aload X9 hx (D d33_174) rfl rfl ?_
  refine g_goto X9 hx 181 (D d33_176) (by decide) (by decide) ?_
  refine g_astore X9 hx #[vr a1, vr a2, vr a3, vr a4, vi (-1), vr a7, vr a8, vn, vr a7, vn, vr a8, vn, vi (-1), vu, vu] (D d33_181) rfl rfl ?_
  refine g_goto X9 hx 71 (D d33_183) (by decide) (by decide) ?_
  refine g_aload X9 hx (D d33_71) rfl rfl ?_
  refine g_nullNo X9 hx (D d33_73) ?_
  refine g_aload X9 hx (D d33_76) rfl rfl ?_
  refine g_getF X9 hx hZ hown (Wd101 hw) (rfl : T9.heap = T9.heap) O_a7_9.2.2.2.1 (D d33_78) (fun T10 X10 e10 => ?_)
  refine g_astore X10 hx #[vr a1, vr a2, vr a3, vr a4, vi (-1), vr a7, vr a8, vn, vn, vn, vr a8, vn, vi (-1), vu, vu] (D d33_81) rfl rfl ?_
  refine g_aload X10 hx (D d33_83) rfl rfl ?_
  refine g_getF X10 hx hZ hown (Wd103 hw) e10 O_a7_9.2.2.2.2.1 (D d33_85) (fun T11 X11 e11 => ?_)
  refine g_astore X11 hx #[vr a1, vr a2, vr a3, vr a4, vi (-1), vr a7, vr a8, vn, vn, vn, vr a8, vn, vi (-1), vu, vu] (D d33_88) rfl rfl ?_
  refine g_aload X11 hx (D d33_90) rfl rfl ?_
  refine g_S X11 hx hZ hown (lk6 hw) (rm_keyOf_12 hw  T9.heap n0 Z9 ) e11 (D d33_92) hml.symm rfl rfl (Nat.le_refl _) (by decide) (fun v12 T12 L12 X12 q12 => ?_)
  obtain ⟨rfl, M12, e12⟩ := q12
  have N12 := Fr.app N9 M12
  refine g_astore X12 hx #[vr a1, vr a2, vr a3, vr a4, vi (-1), vr a7, vr a8, vn, vn, vn, vn, vn, vi (-1), vu, vu] (D d33_95) rfl rfl ?_
  refine g_aload X12 hx (D d33_97) rfl rfl ?_
  refine g_S X12 hx hZ hown (lk6 hw) (rm_keyOf_12 hw  T9.heap n0 Z9 ) e12 (D d33_99) hml.symm rfl rfl (Nat.le_refl _) (by decide) (fun v13 T13 L13 X13 q13 => ?_)
  obtain ⟨rfl, M13, e13⟩ := q13
  have N13 := Fr.app N12 M13
  refine g_astore X13 hx #[vr a1, vr a2, vr a3, vr a4, vi (-1), vr a7, vr a8, vn, vn, vn, vn, vn, vi (-1), vu, vu] (D d33_102) rfl rfl ?_
  refine g_aloadN X13 hx (D d33_104) rfl rfl ?_
  refine g_aloadN X13 hx (D d33_105) rfl rfl ?_
  refine g_aload X13 hx (D d33_106) rfl rfl ?_
  refine g_V X13 hx hZ hown (lk10 hw) (rm_compare_45 hw a1 a2 a8 a4 i1 i2 i4 T9.heap n0 Z9 O_a1_9 O_a2_9 O_a8_9 hk1) e13 O_a1_9.1 (D d33_108) hml.symm rfl rfl (Nat.le_refl _) (by decide) (fun v14 T14 L14 X14 q14 => ?_)
  obtain ⟨rfl, M14, e14⟩ := q14
  have N14 := Fr.app N13 M14
  refine g_istore X14 hx #[vr a1, vr a2, vr a3, vr a4, vi (-1), vr a7, vr a8, vn, vn, vn, vn, vn, vi (-1), vu, vu] (D d33_111) rfl ?_
  refine g_iload X14 hx (D d33_113) rfl ?_
  refine g_ifYes X14 hx 137 (D d33_115) ((if0 _ _).trans (feq ((by decide) : ¬ ((-1 : Int32) = (0 : Int32)))).2) (by decide) (by decide) ?_
  refine g_aload X14 hx (D d33_137) rfl rfl ?_
  refine g_astoreN X14 hx #[vr a1, vr a2, vr a3, vr a7, vi (-1), vr a7, vr a8, vn, vn, vn, vn, vn, vi (-1), vu, vu] (D d33_139) rfl rfl ?_
  refine g_iload X14 hx (D d33_140) rfl ?_
  refine g_istore X14 hx #[vr a1, vr a2, vr a3, vr a7, vi (-1), vr a7, vr a8, vn, vn, vn, vn, vn, vi (-1), vu, vu] (D d33_142) rfl ?_
  refine g_iload X14 hx (D d33_144) rfl ?_
  refine g_ifNo X14 hx (D d33_146) ((if0 _ _).trans (tlt ((by decide) : (-1 : Int32) < (0 : Int32))).2.1) ?_
  refine g_aload X14 hx (D d33_149) rfl rfl ?_
  refine g_iconst X14 hx (1 : Int32) (D d33_151) (by decide) ?_
  refine g_S X14 hx hZ hown (lk11 hw) (rm_addToLeftCount_47 hw a7 a8 a9 a4 T9.heap n0 Z9 O_a7_9 g_a7) e14 (D d33_152) hml.symm rfl rfl (Nat.le_refl _) (by decide) (fun v15 T15 L15 X15 q15 => ?_)
  obtain ⟨rfl, M15, Kc15, Rk15_0⟩ := q15
  have N15 := Fr.app N14 M15
  have O_a1_15 := R_MP_keep O_a1_9 Kc15 (own_nin ne_a1_a7 nl)
  have O_a4_15 := R_ND_keep Rk9_0 Kc15 (own_nin ne_a4_a7 nl)
  have K15 := Keep.trans K9 Kc15 (own_memc (mw 2 rfl) own_memn)
  have Z15 : n0 ≤ T15.heap.size := Nat.le_trans Z9 Kc15.1
  refine g_iload X15 hx (D d33_155) rfl ?_
  refine g_ifNo X15 hx (D d33_157) ((if0 _ _).trans (tlt ((by decide) : (-1 : Int32) < (0 : Int32))).2.1) ?_
  refine g_aload X15 hx (D d33_160) rfl rfl ?_
  refine g_goto X15 hx 167 (D d33_162) (by decide) (by decide) ?_
  refine g_astore X15 hx #[vr a1, vr a2, vr a3, vr a7, vi (-1), vn, vr a8, vn, vn, vn, vn, vn, vi (-1), vu, vu] (D d33_167) rfl rfl ?_
  refine g_iload X15 hx (D d33_169) rfl ?_
  refine g_ifNo X15 hx (D d33_171) ((if0 _ _).trans (tlt ((by decide) : (-1 : Int32) < (0 : Int32))).2.1) ?_
  refine g_aload X15 hx (D d33_174) rfl rfl ?_
  refine g_goto X15 hx 181 (D d33_176) (by decide) (by decide) ?_
  refine g_astore X15 hx #[vr a1, vr a2, vr a3, vr a7, vi (-1), vn, vn, vn, vn, vn, vn, vn, vi (-1), vu, vu] (D d33_181) rfl rfl ?_
  refine g_goto X15 hx 71 (D d33_183) (by decide) (by decide) ?_
  refine g_aload X15 hx (D d33_71) rfl rfl ?_
  refine g_nullYes X15 hx 186 (D d33_73) (by decide) (by decide) ?_
  refine g_aloadN X15 hx (D d33_186) rfl rfl ?_
  refine g_aloadN X15 hx (D d33_187) rfl rfl ?_
  refine g_aloadN X15 hx (D d33_188) rfl rfl ?_
  refine g_aloadN X15 hx (D d33_189) rfl rfl ?_
  refine g_V X15 hx hZ hown (lk13 hw) (rm_newNode_18 hw a1 a2 a3 a7 T15.heap n0 Z15 ) (rfl : T15.heap = T15.heap) O_a1_15.1 (D d33_190) hml.symm rfl rfl (Nat.le_refl _) (by decide) (fun v16 T16 L16 X16 q16 => ?_)
  obtain ⟨b16_0, rfl, M16, Kc16, zb16_0, Rk16_0⟩ := q16
  have N16 := Fr.app N15 M16
  have ne_a1_b16_0 : a1 ≠ b16_0 := Nat.ne_of_lt (Nat.lt_of_lt_of_le O_a1_15.1.lt zb16_0)
  have ne_a4_b16_0 : a4 ≠ b16_0 := Nat.ne_of_lt (Nat.lt_of_lt_of_le O_a4_15.1.lt zb16_0)
  have ne_a7_b16_0 : a7 ≠ b16_0 := Nat.ne_of_lt (Nat.lt_of_lt_of_le Rk15_0.1.lt zb16_0)
  have sz_b16_0 : h0.size ≤ b16_0 := Nat.le_trans K15.1 zb16_0
  have O_a1_16 := R_MP_keep O_a1_15 Kc16 nl
  have O_a4_16 := R_ND_keep O_a4_15 Kc16 nl
  have O_a7_16 := R_ND_keep Rk15_0 Kc16 nl
  have K16 := Keep.trans K15 Kc16 own_memn
  have Z16 : n0 ≤ T16.heap.size := Nat.le_trans Z15 Kc16.1
  refine g_astore X16 hx #[vr a1, vr a2, vr a3, vr a7, vi (-1), vn, vn, vr b16_0, vn, vn, vn, vn, vi (-1), vu, vu] (D d33_193) rfl rfl ?_
  refine g_aload X16 hx (D d33_195) rfl rfl ?_
  refine g_nonnullYes X16 hx 227 (D d33_197) (by decide) (by decide) ?_
  refine g_iload X16 hx (D d33_227) rfl ?_
  refine g_ifNo X16 hx (D d33_229) ((if0 _ _).trans (tlt ((by decide) : (-1 : Int32) < (0 : Int32))).2.1) ?_
  refine g_aloadN X16 hx (D d33_232) rfl rfl ?_
  refine g_aload X16 hx (D d33_233) rfl rfl ?_
  refine g_putF X16 hx hZ hown (Wd101 hw) (rfl : T16.heap = T16.heap) O_a7_16.2.2.2.1 O_a7_16.1 (Or.inl (Wd102 hw)) (Wd76 hw) fd_2 rfl rfl (D d33_235) (fun T17 h17 X17 e17 W17 => ?_)
  have N17 := Fr.snoc X17 N16 g_a7
  have O_a1_17 := R_MP_other W17 O_a1_16 ne_a1_a7
  have O_a4_17 := R_ND_other W17 O_a4_16 ne_a4_a7
  have O_a7_17 := R_ND_set_left hw W17 O_a7_16
  have O_b16_0_17 := R_ND_other W17 Rk16_0 ne_a7_b16_0.symm
  have Z17 : n0 ≤ h17.size := Nat.le_trans Z16 (Nat.le_of_eq W17.size.symm)
  have K17 := Keep.wr K16 W17 (mw 2 rfl)
  refine g_goto X17 hx 247 (D d33_238) (by decide) (by decide) ?_
  refine g_aloadN X17 hx (D d33_247) rfl rfl ?_
  refine g_dup X17 hx (D d33_248) rfl ?_
  refine g_getF X17 hx hZ hown (Wd96 hw) e17 O_a1_17.2.2.2.1 (D d33_249) (fun T18 X18 e18 => ?_)
  refine g_iconst X18 hx (1 : Int32) (D d33_252) (by decide) ?_
  refine g_iadd X18 hx (D d33_253) ?_
  show Go p e below (T18.setTop (mkF m 254 #[vr a1, vr a2, vr a3, vr a7, vi (-1), vn, vn, vr b16_0, vn, vn, vn, vn, vi (-1), vu, vu] [(.int ((2 : Int32) + (1 : Int32))), (.ref a1)])) _
  rw [show ((2 : Int32) + (1 : Int32)) = (3 : Int32) from by decide]
  refine g_putF X18 hx hZ hown (Wd96 hw) e18 O_a1_17.2.2.2.1 O_a1_17.1 (Or.inl (Wd97 hw)) (Wd2 hw) fd_0 rfl rfl (D d33_254) (fun T19 h19 X19 e19 W19 => ?_)
  have N19 := Fr.snoc X19 N17 g_a1
  have O_a1_19 := R_MP_set_size hw W19 O_a1_17
  have O_a4_19 := R_ND_other W19 O_a4_17 ne_a1_a4.symm
  have O_a7_19 := R_ND_other W19 O_a7_17 ne_a1_a7.symm
  have O_b16_0_19 := R_ND_other W19 O_b16_0_17 ne_a1_b16_0.symm
  have Z19 : n0 ≤ h19.size := Nat.le_trans Z17 (Nat.le_of_eq W19.size.symm)
  have K19 := Keep.wr K17 W19 (mw 0 rfl)
  refine g_aloadN X19 hx (D d33_257) rfl rfl ?_
  refine g_aloadN X19 hx (D d33_258) rfl rfl ?_
  refine g_V X19 hx hZ hown (lk14 hw) (rm_refreshToRoot_20 hw a1 a7 h19 n0 Z19 ) e19 O_a1_19.1 (D d33_259) hml.symm rfl rfl (Nat.le_refl _) (by decide) (fun v20 T20 L20 X20 q20 => ?_)
  obtain ⟨rfl, M20, e20⟩ := q20
  have N20 := Fr.app N19 M20
  refine g_aloadN X20 hx (D d33_262) rfl rfl ?_
  refine g_aload X20 hx (D d33_263) rfl rfl ?_
  refine g_P X20 hx hZ hown (lk17 hw) (rm_balanceAfterInsert_48 hw a1 b16_0 a4 i1 a2 a3 a7 a5 a6 i2 a8 a9 i3 i4 h19 n0 Z19 O_a1_19 O_b16_0_19 O_a4_19 O_a7_19 ne_a1_b16_0 ne_a1_a4 ne_a1_a7 ne_a4_b16_0.symm ne_a7_b16_0.symm ne_a4_a7 g_a1 g_a4 g_a7 hk0 hk1) e20 O_a1_19.1 (D d33_265) hml.symm rfl rfl (Nat.le_refl _) (by decide) (fun v21 T21 L21 X21 q21 => ?_)
  obtain ⟨rfl, M21, Kc21, Rk21_0, Rk21_1, Rk21_2⟩ := q21
  have N21 := Fr.app N20 M21
  have O_b16_0_21 := R_ND_keep O_b16_0_19 Kc21 (own_nin ne_a1_b16_0.symm (own_nin ne_a4_b16_0.symm (own_nin ne_a7_b16_0.symm nl)))
  have K21 := Keep.trans K19 Kc21 (own_memc (mw 0 rfl) (own_memc (mw 1 rfl) (own_memc (mw 2 rfl) own_memn)))
  refine g_aloadN X21 hx (D d33_268) rfl rfl ?_
  refine g_dup X21 hx (D d33_269) rfl ?_
  refine g_getF X21 hx hZ hown (Wd98 hw) (rfl : T21.heap = T21.heap) Rk21_0.2.2.2.2 (D d33_270) (fun T22 X22 e22 => ?_)
  refine g_iconst X22 hx (1 : Int32) (D d33_273) (by decide) ?_
  refine g_iadd X22 hx (D d33_274) ?_
  refine g_putF X22 hx hZ hown (Wd98 hw) e22 Rk21_0.2.2.2.2 Rk21_0.1 (Or.inl (Wd99 hw)) (Wd2 hw) fd_0 rfl rfl (D d33_275) (fun T23 h23 X23 e23 W23 => ?_)
  have N23 := Fr.snoc X23 N21 g_a1
  have O_b16_0_23 := R_ND_other W23 O_b16_0_21 ne_a1_b16_0.symm
  have O_a1_23 := R_MP_set_modCount hw W23 Rk21_0
  have O_a4_23 := R_ND_other W23 Rk21_1 ne_a1_a4.symm
  have O_a7_23 := R_ND_other W23 Rk21_2 ne_a1_a7.symm
  have K23 := Keep.wr K21 W23 (mw 0 rfl)
  refine g_null X23 hx (D d33_278) ?_
  exact own_retA X23 hx hret hlk rfl rfl (D d33_279) (by decide) (by decide) (by rw [e23]; exact ⟨b16_0, rfl, N23, K23, sz_b16_0, O_a1_23, O_a4_23, O_a7_23, O_b16_0_23⟩)
theorem rm_put_42 (hw : HW a0 Z) (a1 a2 : Addr) (a3 a4 : Addr) (i1 i2 : Int32) (a5 a6 a7 : Addr) (i3 : Int32) (a8 a9 : Addr) (i4 : Int32) (h0 : Heap) (n0 : Nat) (Z0 : n0 ≤ h0.size) (O_a1 : R_MP Z h0 a1 .null (.ref a4) (.int 2) (.int i1)) (O_a2 : R_IN Z h0 a2 (.int i2)) (O_a4 : R_ND Z h0 a4 (.ref a5) (.ref a6) (.ref a7) .null .null (.int 1)) (O_a5 : R_IN Z h0 a5 (.int i3)) (O_a7 : R_ND Z h0 a7 (.ref a8) (.ref a9) .null .null (.ref a4) (.int (-2147483648))) (O_a8 : R_IN Z h0 a8 (.int i4)) (ne_a1_a4 : a1 ≠ a4) (ne_a1_a7 : a1 ≠ a7) (ne_a2_a4 : a2 ≠ a4) (ne_a4_a7 : a4 ≠ a7) (ne_a4_a8 : a4 ≠ a8) (g_a1 : n0 ≤ a1) (g_a4 : n0 ≤ a4) (g_a7 : n0 ≤ a7) (hk0 : i2 < i3) (hk1 : i2 < i4) :
    Ctr l Y20 B19 4 (some F3_) [] (rmk 5 1 6 79) Z #[(.ref a1), (.ref a2), (.ref a3)] h0 (fun v h L => ∃ f1, v = some .null ∧ Fr n0 L ∧ Keep h0 h [a1, a4, a7] ∧ h0.size ≤ f1 ∧ R_MP Z h a1 .null (.ref a7) (.int 3) (.int (i1 + (1 : Int32))) ∧ R_ND Z h a4 (.ref a5) (.ref a6) .null .null (.ref a7) (.int (-2147483648)) ∧ R_ND Z h a7 (.ref a8) (.ref a9) (.ref f1) (.ref a4) .null (.int 1) ∧ R_ND Z h f1 (.ref a2) (.ref a3) .null .null (.ref a7) (.int (-2147483648))) := by
  refine own_enter pn_2 (fun p e s m below meth c s₁ hx hby hml hown hnm hret hlk hZ X0 e0 => ?_)
  have N0 := Fr.nil n0
  have K0 := Keep.refl h0 [a1, a4, a7]
  rw [ef_7_RRR m _ _ _]
  refine g_aloadN X0 hx (hb hby d7_0) rfl rfl ?_
  refine g_aloadN X0 hx (hb hby d7_1) rfl rfl ?_
  refine g_aloadN X0 hx (hb hby d7_2) rfl rfl ?_
  refine g_PH X0 hx hZ hown (lk18 hw) (rm_addIfAbsent_43 hw a1 a2 a3 a4 i1 i2 a5 a6 a7 i3 a8 a9 i4 h0 n0 Z0 O_a1 O_a2 O_a4 O_a5 O_a7 O_a8 ne_a1_a4 ne_a1_a7 ne_a2_a4 ne_a4_a7 ne_a4_a8 g_a1 g_a4 g_a7 hk0 hk1) e0 O_a1.1 (hb hby d7_3) hml.symm rfl rfl (Nat.le_refl _) (by decide) (fun v1 T1 L1 X1 q1 => ?_)
  obtain ⟨b1_0, rfl, M1, Kc1, zb1_0, Rk1_0, Rk1_1, Rk1_2, Rk1_3⟩ := q1
  have N1 := Fr.app N0 M1
  have sz_b1_0 : h0.size ≤ b1_0 := Nat.le_trans K0.1 zb1_0
  have K1 := Keep.trans K0 Kc1 (own_memc (mw 0 rfl) (own_memc (mw 1 rfl) (own_memc (mw 2 rfl) own_memn)))
  refine g_astoreN X1 hx #[vr a1, vr a2, vr a3, vn] (hb hby d7_6) rfl rfl ?_
  refine g_aloadN X1 hx (hb hby d7_7) rfl rfl ?_
  refine g_nonnullNo X1 hx (hb hby d7_8) ?_
  refine g_null X1 hx (hb hby d7_11) ?_
  refine g_goto X1 hx 21 (hb hby d7_12) (by decide) (by decide) ?_
  exact own_retA X1 hx hret hlk rfl rfl (hb hby d7_21) (by decide) (by decide) (by rw [(rfl : T1.heap = T1.heap)]; exact ⟨b1_0, rfl, N1, K1, sz_b1_0, Rk1_0, Rk1_1, Rk1_2, Rk1_3⟩)
theorem rm_compare_62 (hw : HW a0 Z) (a1 a2 : Addr) (a3 a4 : Addr) (i1 i2 i3 : Int32) (h0 : Heap) (n0 : Nat) (Z0 : n0 ≤ h0.size) (O_a1 : R_MP Z h0 a1 .null (.ref a4) (.int 2) (.int i1)) (O_a2 : R_IN Z h0 a2 (.int i2)) (O_a3 : R_IN Z h0 a3 (.int i3)) (hk0 : ¬ (i2 < i3)) (hk1 : i2 = i3) :
    Ctr l Y11 B10 3 (some FieldType.int) [] (rmk 3 0 0 39) Z #[(.ref a1), (.ref a2), (.ref a3)] h0 (fun v h L => v = some (.int 0) ∧ Fr n0 L ∧ h = h0) := by
  refine own_enter pn_2 (fun p e s m below meth c s₁ hx hby hml hown hnm hret hlk hZ X0 e0 => ?_)
  have N0 := Fr.nil n0
  have K0 := Keep.refl h0 []
  rw [ef_8_RRR m _ _ _]
  refine g_aloadN X0 hx (hb hby d8_0) rfl rfl ?_
  refine g_getF X0 hx hZ hown (Wd18 hw) e0 O_a1.2.1 (hb hby d8_1) (fun T1 X1 e1 => ?_)
  refine g_nonnullNo X1 hx (hb hby d8_4) ?_
  refine g_aloadN X1 hx (hb hby d8_7) rfl rfl ?_
  refine g_cast X1 hx hZ hown (Wd48 hw) e1 (Ins.of_exa O_a2.1 (Wd49 hw)) (hb hby d8_8) (fun T2 X2 e2 => ?_)
  refine g_aloadN X2 hx (hb hby d8_11) rfl rfl ?_
  refine g_F X2 hx hZ hown (lk9 hw) (mvT hZ (Wd52 hw)) (rm_compareTo_27 hw a2 a3 i2 i3 h0 n0 Z0 O_a2 O_a3 hk0 hk1) e2 O_a2.1 (hb hby d8_12) hml.symm rfl rfl (Nat.le_refl _) (by decide) (fun v3 T3 L3 X3 q3 => ?_)
  obtain ⟨rfl, M3, e3⟩ := q3
  have N3 := Fr.app N0 M3
  refine g_goto X3 hx 31 (hb hby d8_17) (by decide) (by decide) ?_
  exact own_retI X3 hx hret hlk (hb hby d8_31) (by decide) (by decide) ⟨rfl, N3, e3⟩
theorem rm_addToLeftCount_64 (hw : HW a0 Z) (a1 a2 : Addr) (a3 a4 : Addr) (h0 : Heap) (n0 : Nat) (Z0 : n0 ≤ h0.size) (O_a1 : R_ND Z h0 a1 (.ref a2) (.ref a3) (.ref a4) .null .null (.int 2)) (g_a1 : n0 ≤ a1) :
    Ctr l Y12 B11 2 none [] (rmk 0 0 0 0) Z #[(.ref a1), (.int (-1))] h0 (fun v h L => v = none ∧ Fr n0 L ∧ Keep h0 h [a1] ∧ R_ND Z h a1 (.ref a2) (.ref a3) (.ref a4) .null .null (.int 1)) := by
  refine own_enter pn_2 (fun p e s m below meth c s₁ hx hby hml hown hnm hret hlk hZ X0 e0 => ?_)
  have N0 := Fr.nil n0
  have K0 := Keep.refl h0 [a1]
  rw [ef_22_RI m _ _]
  refine g_aloadN X0 hx (hb hby d22_0) rfl rfl ?_
  refine g_dup X0 hx (hb hby d22_1) rfl ?_
  refine g_getF X0 hx hZ hown (Wd94 hw) e0 O_a1.2.2.2.2.2.2 (hb hby d22_2) (fun T1 X1 e1 => ?_)
  refine g_iloadN X1 hx (hb hby d22_5) rfl ?_
  refine g_iadd X1 hx (hb hby d22_6) ?_
  show Go p e below (T1.setTop (mkF m 7 #[vr a1, vi (-1)] [(.int ((2 : Int32) + (-1 : Int32))), (.ref a1)])) _
  rw [show ((2 : Int32) + (-1 : Int32)) = (1 : Int32) from by decide]
  refine g_putF X1 hx hZ hown (Wd94 hw) e1 O_a1.2.2.2.2.2.2 O_a1.1 (Or.inl (Wd84 hw)) (Wd76 hw) fd_0 rfl rfl (hb hby d22_7) (fun T2 h2 X2 e2 W2 => ?_)
  have N2 := Fr.snoc X2 N0 g_a1
  have O_a1_2 := R_ND_set_redAndLeftCount hw W2 O_a1
  have K2 := Keep.wr K0 W2 (mw 0 rfl)
  exact own_retV X2 hx hret hlk (hb hby d22_10) (by decide) (by decide) (by rw [e2]; exact ⟨rfl, N2, K2, O_a1_2⟩)
theorem ef_29_RI (m : MethodId) (x0 : Addr) (x1 : Int32) : entryFrame m #[(.ref x0), (.int x1)] 4 = mkF m 0 #[vr x0, vi x1, vu, vu] [] := by first | (simp [entryFrame, mkF, argsToLocals, Value.category]; done) | rfl
theorem d29_0 : decode B27 0 = .ok (.aload_n 0, 1) := by decide +kernel
theorem d29_1 : decode B27 1 = .ok (.astore_n 2, 1) := by decide +kernel
theorem d29_2 : decode B27 2 = .ok (.aload_n 0, 1) := by decide +kernel
theorem d29_3 : decode B27 3 = .ok (.getfield 282, 3) := by decide +kernel
theorem d29_6 : decode B27 6 = .ok (.astore_n 3, 1) := by decide +kernel
theorem d29_7 : decode B27 7 = .ok (.aload_n 3, 1) := by decide +kernel
theorem d29_8 : decode B27 8 = .ok (.ifnull 26, 3) := by decide +kernel
theorem d29_34 : decode B27 34 = .ok (.return_, 1) := by decide +kernel
theorem rm_countAbove_65 (hw : HW a0 Z) (a1 a2 : Addr) (a3 a4 : Addr) (h0 : Heap) (n0 : Nat) (Z0 : n0 ≤ h0.size) (O_a1 : R_ND Z h0 a1 (.ref a2) (.ref a3) (.ref a4) .null .null (.int 1)) :
    Ctr l Y28 B27 4 none [] (rmk 0 0 0 0) Z #[(.ref a1), (.int (-1))] h0 (fun v h L => v = none ∧ Fr n0 L ∧ h = h0) := by
  refine own_enter pn_2 (fun p e s m below meth c s₁ hx hby hml hown hnm hret hlk hZ X0 e0 => ?_)
  have N0 := Fr.nil n0
  have K0 := Keep.refl h0 []
  rw [ef_29_RI m _ _]
  refine g_aloadN X0 hx (hb hby d29_0) rfl rfl ?_
  refine g_astoreN X0 hx #[vr a1, vi (-1), vr a1, vu] (hb hby d29_1) rfl rfl ?_
  refine g_aloadN X0 hx (hb hby d29_2) rfl rfl ?_
  refine g_getF X0 hx hZ hown (Wd117 hw) e0 O_a1.2.2.2.2.2.1 (hb hby d29_3) (fun T1 X1 e1 => ?_)
  refine g_astoreN X1 hx #[vr a1, vi (-1), vr a1, vn] (hb hby d29_6) rfl rfl ?_
  refine g_aloadN X1 hx (hb hby d29_7) rfl rfl ?_
  refine g_nullYes X1 hx 34 (hb hby d29_8) (by decide) (by decide) ?_
  exact own_retV X1 hx hret hlk (hb hby d29_34) (by decide) (by decide) ⟨rfl, N0, e1⟩
theorem lk27 {Z : State} {a0 : Array Value} (hw : HW a0 Z) : LkS "com/example/rosewood/rosewood/RosewoodMap" 290 Y28 B27 4 none [F1_, FieldType.int] none a0 Z := ⟨(hw _ (List.mem_of_getElem? (i := 167) rfl)), (hw _ (List.mem_of_getElem? (i := 168) rfl)), (Wd3 hw), (hw _ (List.mem_of_getElem? (i := 169) rfl)), by decide, pd_11⟩
theorem ef_28_RII (m : MethodId) (x0 : Addr) (x1 x2 : Int32) : entryFrame m #[(.ref x0), (.int x1), (.int x2)] 3 = mkF m 0 #[vr x0, vi x1, vi x2] [] := by first | (simp [entryFrame, mkF, argsToLocals, Value.category]; done) | rfl
theorem d28_5 : decode B20 5 = .ok (.iload_n 1, 1) := by decide +kernel
theorem d28_6 : decode B20 6 = .ok (.ifCond .ge 8, 3) := by decide +kernel
theorem d28_9 : decode B20 9 = .ok (.aload_n 0, 1) := by decide +kernel
theorem d28_10 : decode B20 10 = .ok (.iload_n 2, 1) := by decide +kernel
theorem d28_11 : decode B20 11 = .ok (.invokestatic 221, 3) := by decide +kernel
theorem d28_14 : decode B20 14 = .ok (.aload_n 0, 1) := by decide +kernel
theorem d28_15 : decode B20 15 = .ok (.iload_n 2, 1) := by decide +kernel
theorem d28_16 : decode B20 16 = .ok (.invokestatic 290, 3) := by decide +kernel
theorem d28_19 : decode B20 19 = .ok (.return_, 1) := by decide +kernel
theorem rm_countPlace_63 (hw : HW a0 Z) (a1 a2 : Addr) (a3 a4 : Addr) (h0 : Heap) (n0 : Nat) (Z0 : n0 ≤ h0.size) (O_a1 : R_ND Z h0 a1 (.ref a2) (.ref a3) (.ref a4) .null .null (.int 2)) (g_a1 : n0 ≤ a1) :
    Ctr l Y21 B20 3 none [] (rmk 1 0 0 15) Z #[(.ref a1), (.int (-1)), (.int (-1))] h0 (fun v h L => v = none ∧ Fr n0 L ∧ Keep h0 h [a1] ∧ R_ND Z h a1 (.ref a2) (.ref a3) (.ref a4) .null .null (.int 1)) := by
  refine own_enter pn_2 (fun p e s m below meth c s₁ hx hby hml hown hnm hret hlk hZ X0 e0 => ?_)
  have N0 := Fr.nil n0
  have K0 := Keep.refl h0 [a1]
  rw [ef_28_RII m _ _ _]
  refine g_aloadN X0 hx (hb hby d28_0) rfl rfl ?_
  refine g_nonnullYes X0 hx 5 (hb hby d28_1) (by decide) (by decide) ?_
  refine g_iloadN X0 hx (hb hby d28_5) rfl ?_
  refine g_ifNo X0 hx (hb hby d28_6) ((if0 _ _).trans (tlt ((by decide) : (-1 : Int32) < (0 : Int32))).2.1) ?_
  refine g_aloadN X0 hx (hb hby d28_9) rfl rfl ?_
  refine g_iloadN X0 hx (hb hby d28_10) rfl ?_
  refine g_S X0 hx hZ hown (lk11 hw) (rm_addToLeftCount_64 hw a1 a2 a3 a4 h0 n0 Z0 O_a1 g_a1) e0 (hb hby d28_11) hml.symm rfl rfl (Nat.le_refl _) (by decide) (fun v1 T1 L1 X1 q1 => ?_)
  obtain ⟨rfl, M1, Kc1, Rk1_0⟩ := q1
  have N1 := Fr.app N0 M1
  have K1 := Keep.trans K0 Kc1 (own_memc (mw 0 rfl) own_memn)
  have Z1 : n0 ≤ T1.heap.size := Nat.le_trans Z0 Kc1.1
  refine g_aloadN X1 hx (hb hby d28_14) rfl rfl ?_
  refine g_iloadN X1 hx (hb hby d28_15) rfl ?_
  refine g_S X1 hx hZ hown (lk27 hw) (rm_countAbove_65 hw a1 a2 a3 a4 T1.heap n0 Z1 Rk1_0) (rfl : T1.heap = T1.heap) (hb hby d28_16) hml.symm rfl rfl (Nat.le_refl _) (by decide) (fun v2 T2 L2 X2 q2 => ?_)
  obtain ⟨rfl, M2, e2⟩ := q2
  have N2 := Fr.app N1 M2
  exact own_retV X2 hx hret hlk (hb hby d28_19) (by decide) (by decide) (by rw [e2]; exact ⟨rfl, N2, K1, Rk1_0⟩)
theorem rm_addIfAbsent_61 (hw : HW a0 Z) (a1 a2 : Addr) (a3 a4 : Addr) (i1 i2 : Int32) (a5 a6 a7 : Addr) (i3 : Int32) (a8 a9 : Addr) (i4 : Int32) (h0 : Heap) (n0 : Nat) (Z0 : n0 ≤ h0.size) (O_a1 : R_MP Z h0 a1 .null (.ref a4) (.int 2) (.int i1)) (O_a2 : R_IN Z h0 a2 (.int i2)) (O_a4 : R_ND Z h0 a4 (.ref a5) (.ref a6) (.ref a7) .null .null (.int 1)) (O_a5 : R_IN Z h0 a5 (.int i3)) (O_a7 : R_ND Z h0 a7 (.ref a8) (.ref a9) .null .null (.ref a4) (.int (-2147483648))) (O_a8 : R_IN Z h0 a8 (.int i4)) (ne_a1_a4 : a1 ≠ a4) (ne_a2_a4 : a2 ≠ a4) (ne_a4_a7 : a4 ≠ a7) (ne_a4_a8 : a4 ≠ a8) (g_a4 : n0 ≤ a4) (hk0 : i2 < i3) (hk1 : ¬ (i2 < i4)) (hk2 : i2 = i4) :
    CtrH l Y19 B18 15 (some F1_) [(71, 122, 210, 0), (137, 195, 210, 0), (210, 212, 210, 0)] (rmk 4 0 0 53) Z #[(.ref a1), (.ref a2), (.ref a3)] h0 (fun v h L => v = some (.ref a7) ∧ Fr n0 L ∧ Keep h0 h [a4] ∧ R_ND Z h a4 (.ref a5) (.ref a6) (.ref a7) .null .null (.int 1)) := by
  refine own_enterH pn_2 (fun p e s m below meth c s₁ hx hby hml hown hnm hret hlk hZ X0 e0 => ?_)
  have D {q : Nat} {r} (z : decode B18 q = r) : decode c.code q = r := hb hby z
  have N0 := Fr.nil n0
  have K0 := Keep.refl h0 [a4]
  rw [ef_33_RRR m _ _ _]
  refine g_aloadN X0 hx (D d33_0) rfl rfl ?_
  refine g_getF X0 hx hZ hown (Wd25 hw) e0 O_a1.2.2.1 (D d33_1) (fun T1 X1 e1 => ?_)
  refine g_nonnullYes X1 hx 50 (D d33_4) (by decide) (by decide) ?_
  refine g_null X1 hx (D d33_50) ?_
  refine g_astoreN X1 hx #[vr a1, vr a2, vr a3, vn, vu, vu, vu, vu, vu, vu, vu, vu, vu, vu, vu] (D d33_51) rfl rfl ?_
  refine g_iconst X1 hx (0 : Int32) (D d33_52) (by decide) ?_
  refine g_istore X1 hx #[vr a1, vr a2, vr a3, vn, vi 0, vu, vu, vu, vu, vu, vu, vu, vu, vu, vu] (D d33_53) rfl ?_
  refine g_aloadN X1 hx (D d33_55) rfl rfl ?_
  refine g_getF X1 hx hZ hown (Wd25 hw) e1 O_a1.2.2.1 (D d33_56) (fun T2 X2 e2 => ?_)
  refine g_astore X2 hx #[vr a1, vr a2, vr a3, vn, vi 0, vr a4, vu, vu, vu, vu, vu, vu, vu, vu, vu] (D d33_59) rfl rfl ?_
  refine g_aload X2 hx (D d33_61) rfl rfl ?_
  refine g_getF X2 hx hZ hown (Wd100 hw) e2 O_a4.2.1 (D d33_63) (fun T3 X3 e3 => ?_)
  refine g_astore X3 hx #[vr a1, vr a2, vr a3, vn, vi 0, vr a4, vr a5, vu, vu, vu, vu, vu, vu, vu, vu] (D d33_66) rfl rfl ?_
  refine g_null X3 hx (D d33_68) ?_
  refine g_astore X3 hx #[vr a1, vr a2, vr a3, vn, vi 0, vr a4, vr a5, vn, vu, vu, vu, vu, vu, vu, vu] (D d33_69) rfl rfl ?_
  refine g_aload X3 hx (D d33_71) rfl rfl ?_
  refine g_nullNo X3 hx (D d33_73) ?_
  refine g_aload X3 hx (D d33_76) rfl rfl ?_
  refine g_getF X3 hx hZ hown (Wd101 hw) e3 O_a4.2.2.2.1 (D d33_78) (fun T4 X4 e4 => ?_)
  refine g_astore X4 hx #[vr a1, vr a2, vr a3, vn, vi 0, vr a4, vr a5, vn, vr a7, vu, vu, vu, vu, vu, vu] (D d33_81) rfl rfl ?_
  refine g_aload X4 hx (D d33_83) rfl rfl ?_
  refine g_getF X4 hx hZ hown (Wd103 hw) e4 O_a4.2.2.2.2.1 (D d33_85) (fun T5 X5 e5 => ?_)
  refine g_astore X5 hx #[vr a1, vr a2, vr a3, vn, vi 0, vr a4, vr a5, vn, vr a7, vn, vu, vu, vu, vu, vu] (D d33_88) rfl rfl ?_
  refine g_aload X5 hx (D d33_90) rfl rfl ?_
  refine g_S X5 hx hZ hown (lk6 hw) (rm_keyOf_44 hw a7 a8 a9 a4 h0 n0 Z0 O_a7) e5 (D d33_92) hml.symm rfl rfl (Nat.le_refl _) (by decide) (fun v6 T6 L6 X6 q6 => ?_)
  obtain ⟨rfl, M6, e6⟩ := q6
  have N6 := Fr.app N0 M6
  refine g_astore X6 hx #[vr a1, vr a2, vr a3, vn, vi 0, vr a4, vr a5, vn, vr a7, vn, vr a8, vu, vu, vu, vu] (D d33_95) rfl rfl ?_
  refine g_aload X6 hx (D d33_97) rfl rfl ?_
  refine g_S X6 hx hZ hown (lk6 hw) (rm_keyOf_12 hw  h0 n0 Z0 ) e6 (D d33_99) hml.symm rfl rfl (Nat.le_refl _) (by decide) (fun v7 T7 L7 X7 q7 => ?_)
  obtain ⟨rfl, M7, e7⟩ := q7
  have N7 := Fr.app N6 M7
  refine g_astore X7 hx #[vr a1, vr a2, vr a3, vn, vi 0, vr a4, vr a5, vn, vr a7, vn, vr a8, vn, vu, vu, vu] (D d33_102) rfl rfl ?_
  refine g_aloadN X7 hx (D d33_104) rfl rfl ?_
  refine g_aloadN X7 hx (D d33_105) rfl rfl ?_
  refine g_aload X7 hx (D d33_106) rfl rfl ?_
  refine g_V X7 hx hZ hown (lk10 hw) (rm_compare_45 hw a1 a2 a5 a4 i1 i2 i3 h0 n0 Z0 O_a1 O_a2 O_a5 hk0) e7 O_a1.1 (D d33_108) hml.symm rfl rfl (Nat.le_refl _) (by decide) (fun v8 T8 L8 X8 q8 => ?_)
  obtain ⟨rfl, M8, e8⟩ := q8
  have N8 := Fr.app N7 M8
  refine g_istore X8 hx #[vr a1, vr a2, vr a3, vn, vi 0, vr a4, vr a5, vn, vr a7, vn, vr a8, vn, vi (-1), vu, vu] (D d33_111) rfl ?_
  refine g_iload X8 hx (D d33_113) rfl ?_
  refine g_ifYes X8 hx 137 (D d33_115) ((if0 _ _).trans (feq ((by decide) : ¬ ((-1 : Int32) = (0 : Int32)))).2) (by decide) (by decide) ?_
  refine g_aload X8 hx (D d33_137) rfl rfl ?_
  refine g_astoreN X8 hx #[vr a1, vr a2, vr a3, vr a4, vi 0, vr a4, vr a5, vn, vr a7, vn, vr a8, vn, vi (-1), vu, vu] (D d33_139) rfl rfl ?_
  refine g_iload X8 hx (D d33_140) rfl ?_
  refine g_istore X8 hx #[vr a1, vr a2, vr a3, vr a4, vi (-1), vr a4, vr a5, vn, vr a7, vn, vr a8, vn, vi (-1), vu, vu] (D d33_142) rfl ?_
  refine g_iload X8 hx (D d33_144) rfl ?_
  refine g_ifNo X8 hx (D d33_146) ((if0 _ _).trans (tlt ((by decide) : (-1 : Int32) < (0 : Int32))).2.1) ?_
  refine g_aload X8 hx (D d33_149) rfl rfl ?_
  refine g_iconst X8 hx (1 : Int32) (D d33_151) (by decide) ?_
  refine g_S X8 hx hZ hown (lk11 hw) (rm_addToLeftCount_46 hw a4 a5 a6 a7 h0 n0 Z0 O_a4 g_a4) e8 (D d33_152) hml.symm rfl rfl (Nat.le_refl _) (by decide) (fun v9 T9 L9 X9 q9 => ?_)
  obtain ⟨rfl, M9, Kc9, Rk9_0⟩ := q9
  have N9 := Fr.app N8 M9
  have O_a1_9 := R_MP_keep O_a1 Kc9 (own_nin ne_a1_a4 nl)
  have O_a2_9 := R_IN_keep O_a2 Kc9 (own_nin ne_a2_a4 nl)
  have O_a7_9 := R_ND_keep O_a7 Kc9 (own_nin ne_a4_a7.symm nl)
  have O_a8_9 := R_IN_keep O_a8 Kc9 (own_nin ne_a4_a8.symm nl)
  have K9 := Keep.trans K0 Kc9 (own_memc (mw 0 rfl) own_memn)
  have Z9 : n0 ≤ T9.heap.size := Nat.le_trans Z0 Kc9.1
  refine g_iload X9 hx (D d33_155) rfl ?_
  refine g_ifNo X9 hx (D d33_157) ((if0 _ _).trans (tlt ((by decide) : (-1 : Int32) < (0 : Int32))).2.1) ?_
  refine g_aload X9 hx (D d33_160) rfl rfl ?_
  refine g_goto X9 hx 167 (D d33_162) (by decide) (by decide) ?_
  refine g_astore X9 hx #[vr a1, vr a2, vr a3, vr a4, vi (-1), vr a7, vr a5, vn, vr a7, vn, vr a8, vn, vi (-1), vu, vu] (D d33_167) rfl rfl ?_
  refine g_iload X9 hx (D d33_169) rfl ?_
  refine g_ifNo X9 hx (D d33_171) ((if0 _ _).trans (tlt ((by decide) : (-1 : Int32) < (0 : Int32))).2.1) ?_
  refine g_aload X9 hx (D d33_174) rfl rfl ?_
  refine g_goto X9 hx 181 (D d33_176) (by decide) (by decide) ?_
  refine g_astore X9 hx #[vr a1, vr a2, vr a3, vr a4, vi (-1), vr a7, vr a8, vn, vr a7, vn, vr a8, vn, vi (-1), vu, vu] (D d33_181) rfl rfl ?_
  refine g_goto X9 hx 71 (D d33_183) (by decide) (by decide) ?_
  refine g_aload X9 hx (D d33_71) rfl rfl ?_
  refine g_nullNo X9 hx (D d33_73) ?_
  refine g_aload X9 hx (D d33_76) rfl rfl ?_
  refine g_getF X9 hx hZ hown (Wd101 hw) (rfl : T9.heap = T9.heap) O_a7_9.2.2.2.1 (D d33_78) (fun T10 X10 e10 => ?_)
  refine g_astore X10 hx #[vr a1, vr a2, vr a3, vr a4, vi (-1), vr a7, vr a8, vn, vn, vn, vr a8, vn, vi (-1), vu, vu] (D d33_81) rfl rfl ?_
  refine g_aload X10 hx (D d33_83) rfl rfl ?_
  refine g_getF X10 hx hZ hown (Wd103 hw) e10 O_a7_9.2.2.2.2.1 (D d33_85) (fun T11 X11 e11 => ?_)
  refine g_astore X11 hx #[vr a1, vr a2, vr a3, vr a4, vi (-1), vr a7, vr a8, vn, vn, vn, vr a8, vn, vi (-1), vu, vu] (D d33_88) rfl rfl ?_
  refine g_aload X11 hx (D d33_90) rfl rfl ?_
  refine g_S X11 hx hZ hown (lk6 hw) (rm_keyOf_12 hw  T9.heap n0 Z9 ) e11 (D d33_92) hml.symm rfl rfl (Nat.le_refl _) (by decide) (fun v12 T12 L12 X12 q12 => ?_)
  obtain ⟨rfl, M12, e12⟩ := q12
  have N12 := Fr.app N9 M12
  refine g_astore X12 hx #[vr a1, vr a2, vr a3, vr a4, vi (-1), vr a7, vr a8, vn, vn, vn, vn, vn, vi (-1), vu, vu] (D d33_95) rfl rfl ?_
  refine g_aload X12 hx (D d33_97) rfl rfl ?_
  refine g_S X12 hx hZ hown (lk6 hw) (rm_keyOf_12 hw  T9.heap n0 Z9 ) e12 (D d33_99) hml.symm rfl rfl (Nat.le_refl _) (by decide) (fun v13 T13 L13 X13 q13 => ?_)
  obtain ⟨rfl, M13, e13⟩ := q13
  have N13 := Fr.app N12 M13
  refine g_astore X13 hx #[vr a1, vr a2, vr a3, vr a4, vi (-1), vr a7, vr a8, vn, vn, vn, vn, vn, vi (-1), vu, vu] (D d33_102) rfl rfl ?_
  refine g_aloadN X13 hx (D d33_104) rfl rfl ?_
  refine g_aloadN X13 hx (D d33_105) rfl rfl ?_
  refine g_aload X13 hx (D d33_106) rfl rfl ?_
  refine g_V X13 hx hZ hown (lk10 hw) (rm_compare_62 hw a1 a2 a8 a4 i1 i2 i4 T9.heap n0 Z9 O_a1_9 O_a2_9 O_a8_9 hk1 hk2) e13 O_a1_9.1 (D d33_108) hml.symm rfl rfl (Nat.le_refl _) (by decide) (fun v14 T14 L14 X14 q14 => ?_)
  obtain ⟨rfl, M14, e14⟩ := q14
  have N14 := Fr.app N13 M14
  refine g_istore X14 hx #[vr a1, vr a2, vr a3, vr a4, vi (-1), vr a7, vr a8, vn, vn, vn, vn, vn, vi 0, vu, vu] (D d33_111) rfl ?_
  refine g_iload X14 hx (D d33_113) rfl ?_
  refine g_ifNo X14 hx (D d33_115) ((if0 _ _).trans (teq ((by decide) : (0 : Int32) = (0 : Int32))).2) ?_
  refine g_aload X14 hx (D d33_118) rfl rfl ?_
  refine g_astore X14 hx #[vr a1, vr a2, vr a3, vr a4, vi (-1), vr a7, vr a8, vn, vn, vn, vn, vn, vi 0, vr a7, vu] (D d33_120) rfl rfl ?_
  refine g_aload X14 hx (D d33_122) rfl rfl ?_
  refine g_nonnullNo X14 hx (D d33_124) ?_
  refine g_aloadN X14 hx (D d33_127) rfl rfl ?_
  refine g_iload X14 hx (D d33_128) rfl ?_
  refine g_iconst X14 hx (-1 : Int32) (D d33_130) (by decide) ?_
  refine g_S X14 hx hZ hown (lk20 hw) (rm_countPlace_63 hw a4 a5 a6 a7 T9.heap n0 Z9 Rk9_0 g_a4) e14 (D d33_131) hml.symm rfl rfl (Nat.le_refl _) (by decide) (fun v15 T15 L15 X15 q15 => ?_)
  obtain ⟨rfl, M15, Kc15, Rk15_0⟩ := q15
  have N15 := Fr.app N14 M15
  have K15 := Keep.trans K9 Kc15 (own_memc (mw 0 rfl) own_memn)
  refine g_aload X15 hx (D d33_134) rfl rfl ?_
  exact own_retA X15 hx hret hlk rfl rfl (D d33_136) (by decide) (by decide) (by rw [(rfl : T15.heap = T15.heap)]; exact ⟨rfl, N15, K15, Rk15_0⟩)
theorem rm_setValue_67 (hw : HW a0 Z) (a1 a2 : Addr) (a3 a4 a5 : Addr) (h0 : Heap) (n0 : Nat) (Z0 : n0 ≤ h0.size) (O_a1 : R_ND Z h0 a1 (.ref a3) (.ref a4) .null .null (.ref a5) (.int (-2147483648))) (g_a1 : n0 ≤ a1) :
    Ctr l Y22 B21 3 (some F3_) [] (rmk 0 0 0 0) Z #[(.ref a1), (.ref a2)] h0 (fun v h L => v = some (.ref a4) ∧ Fr n0 L ∧ Keep h0 h [a1] ∧ R_ND Z h a1 (.ref a3) (.ref a2) .null .null (.ref a5) (.int (-2147483648))) := by
  refine own_enter pn_3 (fun p e s m below meth c s₁ hx hby hml hown hnm hret hlk hZ X0 e0 => ?_)
  have N0 := Fr.nil n0
  have K0 := Keep.refl h0 [a1]
  rw [ef_31_RR m _ _]
  refine g_aloadN X0 hx (hb hby d31_0) rfl rfl ?_
  refine g_getF X0 hx hZ hown (Wd87 hw) e0 O_a1.2.2.1 (hb hby d31_1) (fun T1 X1 e1 => ?_)
  refine g_astoreN X1 hx #[vr a1, vr a2, vr a4] (hb hby d31_4) rfl rfl ?_
  refine g_aloadN X1 hx (hb hby d31_5) rfl rfl ?_
  refine g_aloadN X1 hx (hb hby d31_6) rfl rfl ?_
  refine g_putF X1 hx hZ hown (Wd87 hw) e1 O_a1.2.2.1 O_a1.1 (Or.inl (Wd88 hw)) (Wd76 hw) fd_1 rfl rfl (hb hby d31_7) (fun T2 h2 X2 e2 W2 => ?_)
  have N2 := Fr.snoc X2 N0 g_a1
  have O_a1_2 := R_ND_set_value hw W2 O_a1
  have K2 := Keep.wr K0 W2 (mw 0 rfl)
  refine g_aloadN X2 hx (hb hby d31_10) rfl rfl ?_
  exact own_retA X2 hx hret hlk rfl rfl (hb hby d31_11) (by decide) (by decide) (by rw [e2]; exact ⟨rfl, N2, K2, O_a1_2⟩)
theorem rm_replaceValue_66 (hw : HW a0 Z) (a1 a2 : Addr) (a3 a4 : Addr) (a5 a6 : Addr) (h0 : Heap) (n0 : Nat) (Z0 : n0 ≤ h0.size) (O_a2 : R_ND Z h0 a2 (.ref a4) (.ref a5) .null .null (.ref a6) (.int (-2147483648))) (g_a2 : n0 ≤ a2) :
    Ctr l Y23 B22 3 (some F3_) [] (rmk 1 0 0 14) Z #[(.ref a1), (.ref a2), (.ref a3)] h0 (fun v h L => v = some (.ref a5) ∧ Fr n0 L ∧ Keep h0 h [a2] ∧ R_ND Z h a2 (.ref a4) (.ref a3) .null .null (.ref a6) (.int (-2147483648))) := by
  refine own_enter pn_2 (fun p e s m below meth c s₁ hx hby hml hown hnm hret hlk hZ X0 e0 => ?_)
  have N0 := Fr.nil n0
  have K0 := Keep.refl h0 [a2]
  rw [ef_30_RRR m _ _ _]
  refine g_aloadN X0 hx (hb hby d30_0) rfl rfl ?_
  refine g_aloadN X0 hx (hb hby d30_1) rfl rfl ?_
  refine g_V X0 hx hZ hown (lk21 hw) (rm_setValue_67 hw a2 a3 a4 a5 a6 h0 n0 Z0 O_a2 g_a2) e0 O_a2.1 (hb hby d30_2) hml.symm rfl rfl (Nat.le_refl _) (by decide) (fun v1 T1 L1 X1 q1 => ?_)
  obtain ⟨rfl, M1, Kc1, Rk1_0⟩ := q1
  have N1 := Fr.app N0 M1
  have K1 := Keep.trans K0 Kc1 (own_memc (mw 0 rfl) own_memn)
  exact own_retA X1 hx hret hlk rfl rfl (hb hby d30_5) (by decide) (by decide) (by rw [(rfl : T1.heap = T1.heap)]; exact ⟨rfl, N1, K1, Rk1_0⟩)
theorem rm_put_60 (hw : HW a0 Z) (a1 a2 : Addr) (a3 a4 : Addr) (i1 i2 : Int32) (a5 a6 a7 : Addr) (i3 : Int32) (a8 a9 : Addr) (i4 : Int32) (h0 : Heap) (n0 : Nat) (Z0 : n0 ≤ h0.size) (O_a1 : R_MP Z h0 a1 .null (.ref a4) (.int 2) (.int i1)) (O_a2 : R_IN Z h0 a2 (.int i2)) (O_a4 : R_ND Z h0 a4 (.ref a5) (.ref a6) (.ref a7) .null .null (.int 1)) (O_a5 : R_IN Z h0 a5 (.int i3)) (O_a7 : R_ND Z h0 a7 (.ref a8) (.ref a9) .null .null (.ref a4) (.int (-2147483648))) (O_a8 : R_IN Z h0 a8 (.int i4)) (ne_a1_a4 : a1 ≠ a4) (ne_a2_a4 : a2 ≠ a4) (ne_a4_a7 : a4 ≠ a7) (ne_a4_a8 : a4 ≠ a8) (g_a4 : n0 ≤ a4) (g_a7 : n0 ≤ a7) (hk0 : i2 < i3) (hk1 : ¬ (i2 < i4)) (hk2 : i2 = i4) :
    Ctr l Y20 B19 4 (some F3_) [] (rmk 5 0 0 79) Z #[(.ref a1), (.ref a2), (.ref a3)] h0 (fun v h L => v = some (.ref a9) ∧ Fr n0 L ∧ Keep h0 h [a4, a7] ∧ R_ND Z h a4 (.ref a5) (.ref a6) (.ref a7) .null .null (.int 1) ∧ R_ND Z h a7 (.ref a8) (.ref a3) .null .null (.ref a4) (.int (-2147483648))) := by
  refine own_enter pn_2 (fun p e s m below meth c s₁ hx hby hml hown hnm hret hlk hZ X0 e0 => ?_)
  have N0 := Fr.nil n0
  have K0 := Keep.refl h0 [a4, a7]
  rw [ef_7_RRR m _ _ _]
  refine g_aloadN X0 hx (hb hby d7_0) rfl rfl ?_
  refine g_aloadN X0 hx (hb hby d7_1) rfl rfl ?_
  refine g_aloadN X0 hx (hb hby d7_2) rfl rfl ?_
  refine g_PH X0 hx hZ hown (lk18 hw) (rm_addIfAbsent_61 hw a1 a2 a3 a4 i1 i2 a5 a6 a7 i3 a8 a9 i4 h0 n0 Z0 O_a1 O_a2 O_a4 O_a5 O_a7 O_a8 ne_a1_a4 ne_a2_a4 ne_a4_a7 ne_a4_a8 g_a4 hk0 hk1 hk2) e0 O_a1.1 (hb hby d7_3) hml.symm rfl rfl (Nat.le_refl _) (by decide) (fun v1 T1 L1 X1 q1 => ?_)
  obtain ⟨rfl, M1, Kc1, Rk1_0⟩ := q1
  have N1 := Fr.app N0 M1
  have O_a1_1 := R_MP_keep O_a1 Kc1 (own_nin ne_a1_a4 nl)
  have O_a7_1 := R_ND_keep O_a7 Kc1 (own_nin ne_a4_a7.symm nl)
  have K1 := Keep.trans K0 Kc1 (own_memc (mw 0 rfl) own_memn)
  have Z1 : n0 ≤ T1.heap.size := Nat.le_trans Z0 Kc1.1
  refine g_astoreN X1 hx #[vr a1, vr a2, vr a3, vr a7] (hb hby d7_6) rfl rfl ?_
  refine g_aloadN X1 hx (hb hby d7_7) rfl rfl ?_
  refine g_nonnullYes X1 hx 15 (hb hby d7_8) (by decide) (by decide) ?_
  refine g_aloadN X1 hx (hb hby d7_15) rfl rfl ?_
  refine g_aloadN X1 hx (hb hby d7_16) rfl rfl ?_
  refine g_aloadN X1 hx (hb hby d7_17) rfl rfl ?_
  refine g_V X1 hx hZ hown (lk22 hw) (rm_replaceValue_66 hw a1 a7 a3 a8 a9 a4 T1.heap n0 Z1 O_a7_1 g_a7) (rfl : T1.heap = T1.heap) O_a1_1.1 (hb hby d7_18) hml.symm rfl rfl (Nat.le_refl _) (by decide) (fun v2 T2 L2 X2 q2 => ?_)
  obtain ⟨rfl, M2, Kc2, Rk2_0⟩ := q2
  have N2 := Fr.app N1 M2
  have O_a4_2 := R_ND_keep Rk1_0 Kc2 (own_nin ne_a4_a7 nl)
  have K2 := Keep.trans K1 Kc2 (own_memc (mw 1 rfl) own_memn)
  exact own_retA X2 hx hret hlk rfl rfl (hb hby d7_21) (by decide) (by decide) (by rw [(rfl : T2.heap = T2.heap)]; exact ⟨rfl, N2, K2, O_a4_2, Rk2_0⟩)
theorem rm_compare_70 (hw : HW a0 Z) (a1 a2 : Addr) (a3 a4 : Addr) (i1 i2 i3 : Int32) (h0 : Heap) (n0 : Nat) (Z0 : n0 ≤ h0.size) (O_a1 : R_MP Z h0 a1 .null (.ref a4) (.int 2) (.int i1)) (O_a2 : R_IN Z h0 a2 (.int i2)) (O_a3 : R_IN Z h0 a3 (.int i3)) (hk0 : ¬ (i2 < i3)) (hk1 : ¬ (i2 = i3)) :
    Ctr l Y11 B10 3 (some FieldType.int) [] (rmk 3 0 0 39) Z #[(.ref a1), (.ref a2), (.ref a3)] h0 (fun v h L => v = some (.int 1) ∧ Fr n0 L ∧ h = h0) := by
  refine own_enter pn_2 (fun p e s m below meth c s₁ hx hby hml hown hnm hret hlk hZ X0 e0 => ?_)
  have N0 := Fr.nil n0
  have K0 := Keep.refl h0 []
  rw [ef_8_RRR m _ _ _]
  refine g_aloadN X0 hx (hb hby d8_0) rfl rfl ?_
  refine g_getF X0 hx hZ hown (Wd18 hw) e0 O_a1.2.1 (hb hby d8_1) (fun T1 X1 e1 => ?_)
  refine g_nonnullNo X1 hx (hb hby d8_4) ?_
  refine g_aloadN X1 hx (hb hby d8_7) rfl rfl ?_
  refine g_cast X1 hx hZ hown (Wd48 hw) e1 (Ins.of_exa O_a2.1 (Wd49 hw)) (hb hby d8_8) (fun T2 X2 e2 => ?_)
  refine g_aloadN X2 hx (hb hby d8_11) rfl rfl ?_
  refine g_F X2 hx hZ hown (lk9 hw) (mvT hZ (Wd52 hw)) (rm_compareTo_36 hw a2 a3 i2 i3 h0 n0 Z0 O_a2 O_a3 hk0 hk1) e2 O_a2.1 (hb hby d8_12) hml.symm rfl rfl (Nat.le_refl _) (by decide) (fun v3 T3 L3 X3 q3 => ?_)
  obtain ⟨rfl, M3, e3⟩ := q3
  have N3 := Fr.app N0 M3
  refine g_goto X3 hx 31 (hb hby d8_17) (by decide) (by decide) ?_
  exact own_retI X3 hx hret hlk (hb hby d8_31) (by decide) (by decide) ⟨rfl, N3, e3⟩
theorem rm_isRed_72 (hw : HW a0 Z) (a1 a2 : Addr) (a3 a4 a5 : Addr) (h0 : Heap) (n0 : Nat) (Z0 : n0 ≤ h0.size) (O_a1 : R_ND Z h0 a1 (.ref a2) (.ref a3) .null (.ref a4) (.ref a5) (.int (-2147483648))) :
    Ctr l Y16 B15 1 (some FieldType.boolean) [] (rmk 0 0 0 0) Z #[(.ref a1)] h0 (fun v h L => v = some (.int 1) ∧ Fr n0 L ∧ h = h0) := by
  refine own_enter pn_2 (fun p e s m below meth c s₁ hx hby hml hown hnm hret hlk hZ X0 e0 => ?_)
  have N0 := Fr.nil n0
  have K0 := Keep.refl h0 []
  rw [ef_18_R m _]
  refine g_aloadN X0 hx (hb hby d18_0) rfl rfl ?_
  refine g_nullNo X0 hx (hb hby d18_1) ?_
  refine g_aloadN X0 hx (hb hby d18_4) rfl rfl ?_
  refine g_getF X0 hx hZ hown (Wd94 hw) e0 O_a1.2.2.2.2.2.2 (hb hby d18_5) (fun T1 X1 e1 => ?_)
  refine g_ifNo X1 hx (hb hby d18_8) ((if0 _ _).trans (tlt ((by decide) : (-2147483648 : Int32) < (0 : Int32))).2.1) ?_
  refine g_iconst X1 hx (1 : Int32) (hb hby d18_11) (by decide) ?_
  refine g_goto X1 hx 16 (hb hby d18_12) (by decide) (by decide) ?_
  exact own_retZ X1 hx hret hlk (hb hby d18_16) (by decide) (by decide) (by decide) ⟨rfl, N0, e1⟩
theorem d20_17 : decode B23 17 = .ok (.aload_n 1, 1) := by decide +kernel
theorem d20_18 : decode B23 18 = .ok (.aload_n 3, 1) := by decide +kernel
theorem d20_19 : decode B23 19 = .ok (.getfield 211, 3) := by decide +kernel
theorem d20_22 : decode B23 22 = .ok (.if_acmp .ne 11, 3) := by decide +kernel
theorem d20_25 : decode B23 25 = .ok (.aload_n 3, 1) := by decide +kernel
theorem d20_26 : decode B23 26 = .ok (.aload_n 2, 1) := by decide +kernel
theorem d20_27 : decode B23 27 = .ok (.putfield 211, 3) := by decide +kernel
theorem d20_30 : decode B23 30 = .ok (.goto 8, 3) := by decide +kernel
theorem rm_replaceInParent_74 (hw : HW a0 Z) (a1 a2 : Addr) (a3 a4 : Addr) (a5 a6 : Addr) (a7 a8 : Addr) (a9 a10 : Addr) (i2 i3 i4 : Int32) (h0 : Heap) (n0 : Nat) (Z0 : n0 ≤ h0.size) (O_a2 : R_ND Z h0 a2 (.ref a5) (.ref a6) .null .null (.ref a4) (.int (-2147483648))) (O_a3 : R_ND Z h0 a3 (.ref a7) (.ref a8) .null .null (.ref a2) (.int (-2147483648))) (O_a4 : R_ND Z h0 a4 (.ref a9) (.ref a10) (.ref a2) .null .null (.int 2)) (ne_a3_a4 : a3 ≠ a4) (g_a3 : n0 ≤ a3) (g_a4 : n0 ≤ a4) (hk0 : i3 < i4) (hk1 : ¬ (i3 < i2)) (hk2 : ¬ (i3 = i2)) :
    Ctr l Y24 B23 4 none [] (rmk 0 0 0 0) Z #[(.ref a1), (.ref a2), (.ref a3)] h0 (fun v h L => v = none ∧ Fr n0 L ∧ Keep h0 h [a3, a4] ∧ R_ND Z h a3 (.ref a7) (.ref a8) .null .null (.ref a4) (.int (-2147483648)) ∧ R_ND Z h a4 (.ref a9) (.ref a10) (.ref a3) .null .null (.int 2)) := by
  refine own_enter pn_2 (fun p e s m below meth c s₁ hx hby hml hown hnm hret hlk hZ X0 e0 => ?_)
  have N0 := Fr.nil n0
  have K0 := Keep.refl h0 [a3, a4]
  rw [ef_20_RRR m _ _ _]
  refine g_aloadN X0 hx (hb hby d20_0) rfl rfl ?_
  refine g_getF X0 hx hZ hown (Wd117 hw) e0 O_a2.2.2.2.2.2.1 (hb hby d20_1) (fun T1 X1 e1 => ?_)
  refine g_astoreN X1 hx #[vr a1, vr a2, vr a3, vr a4] (hb hby d20_4) rfl rfl ?_
  refine g_aloadN X1 hx (hb hby d20_5) rfl rfl ?_
  refine g_nonnullYes X1 hx 17 (hb hby d20_6) (by decide) (by decide) ?_
  refine g_aloadN X1 hx (hb hby d20_17) rfl rfl ?_
  refine g_aloadN X1 hx (hb hby d20_18) rfl rfl ?_
  refine g_getF X1 hx hZ hown (Wd101 hw) e1 O_a4.2.2.2.1 (hb hby d20_19) (fun T2 X2 e2 => ?_)
  have c22_0 : a2 = a2 := rfl
  refine g_acmp X2 hx 25 true rfl rfl (hb hby d20_22) (decide_eq_true (congrArg Value.ref c22_0)) (by decide) (by decide) ?_
  refine g_aloadN X2 hx (hb hby d20_25) rfl rfl ?_
  refine g_aloadN X2 hx (hb hby d20_26) rfl rfl ?_
  refine g_putF X2 hx hZ hown (Wd101 hw) e2 O_a4.2.2.2.1 O_a4.1 (Or.inl (Wd102 hw)) (Wd76 hw) fd_2 rfl rfl (hb hby d20_27) (fun T3 h3 X3 e3 W3 => ?_)
  have N3 := Fr.snoc X3 N0 g_a4
  have O_a3_3 := R_ND_other W3 O_a3 ne_a3_a4
  have O_a4_3 := R_ND_set_left hw W3 O_a4
  have K3 := Keep.wr K0 W3 (mw 1 rfl)
  refine g_goto X3 hx 38 (hb hby d20_30) (by decide) (by decide) ?_
  refine g_aloadN X3 hx (hb hby d20_38) rfl rfl ?_
  refine g_nullNo X3 hx (hb hby d20_39) ?_
  refine g_aloadN X3 hx (hb hby d20_42) rfl rfl ?_
  refine g_aloadN X3 hx (hb hby d20_43) rfl rfl ?_
  refine g_putF X3 hx hZ hown (Wd117 hw) e3 O_a3_3.2.2.2.2.2.1 O_a3_3.1 (Or.inl (Wd90 hw)) (Wd76 hw) fd_2 rfl rfl (hb hby d20_44) (fun T4 h4 X4 e4 W4 => ?_)
  have N4 := Fr.snoc X4 N3 g_a3
  have O_a3_4 := R_ND_set_parent hw W4 O_a3_3
  have O_a4_4 := R_ND_other W4 O_a4_3 ne_a3_a4.symm
  have K4 := Keep.wr K3 W4 (mw 0 rfl)
  exact own_retV X4 hx hret hlk (hb hby d20_47) (by decide) (by decide) (by rw [e4]; exact ⟨rfl, N4, K4, O_a3_4, O_a4_4⟩)
theorem rm_leftCount_75 (hw : HW a0 Z) (a1 a2 : Addr) (a3 a4 : Addr) (h0 : Heap) (n0 : Nat) (Z0 : n0 ≤ h0.size) (O_a1 : R_ND Z h0 a1 (.ref a2) (.ref a3) .null .null (.ref a4) (.int (-2147483648))) :
    Ctr l Y25 B24 1 (some FieldType.int) [] (rmk 0 0 0 0) Z #[(.ref a1)] h0 (fun v h L => v = some (.int 0) ∧ Fr n0 L ∧ h = h0) := by
  refine own_enter pn_2 (fun p e s m below meth c s₁ hx hby hml hown hnm hret hlk hZ X0 e0 => ?_)
  have N0 := Fr.nil n0
  have K0 := Keep.refl h0 []
  rw [ef_21_R m _]
  refine g_aloadN X0 hx (hb hby d21_0) rfl rfl ?_
  refine g_getF X0 hx hZ hown (Wd94 hw) e0 O_a1.2.2.2.2.2.2 (hb hby d21_1) (fun T1 X1 e1 => ?_)
  refine g_ldcw X1 hx hZ hown (Wd95 hw) (hb hby d21_4) ?_
  refine g_iand X1 hx (hb hby d21_7) ?_
  show Go p e below (T1.setTop (mkF m 8 #[vr a1] [(.int ((-2147483648 : Int32) &&& (2147483647 : Int32)))])) _
  rw [show ((-2147483648 : Int32) &&& (2147483647 : Int32)) = (0 : Int32) from by decide]
  exact own_retI X1 hx hret hlk (hb hby d21_8) (by decide) (by decide) ⟨rfl, N0, e1⟩
theorem rm_addToLeftCount_76 (hw : HW a0 Z) (a1 a2 : Addr) (a3 a4 a5 : Addr) (h0 : Heap) (n0 : Nat) (Z0 : n0 ≤ h0.size) (O_a1 : R_ND Z h0 a1 (.ref a2) (.ref a3) (.ref a4) .null (.ref a5) (.int (-2147483648))) (g_a1 : n0 ≤ a1) :
    Ctr l Y12 B11 2 none [] (rmk 0 0 0 0) Z #[(.ref a1), (.int 1)] h0 (fun v h L => v = none ∧ Fr n0 L ∧ Keep h0 h [a1] ∧ R_ND Z h a1 (.ref a2) (.ref a3) (.ref a4) .null (.ref a5) (.int (-2147483647))) := by
  refine own_enter pn_2 (fun p e s m below meth c s₁ hx hby hml hown hnm hret hlk hZ X0 e0 => ?_)
  have N0 := Fr.nil n0
  have K0 := Keep.refl h0 [a1]
  rw [ef_22_RI m _ _]
  refine g_aloadN X0 hx (hb hby d22_0) rfl rfl ?_
  refine g_dup X0 hx (hb hby d22_1) rfl ?_
  refine g_getF X0 hx hZ hown (Wd94 hw) e0 O_a1.2.2.2.2.2.2 (hb hby d22_2) (fun T1 X1 e1 => ?_)
  refine g_iloadN X1 hx (hb hby d22_5) rfl ?_
  refine g_iadd X1 hx (hb hby d22_6) ?_
  show Go p e below (T1.setTop (mkF m 7 #[vr a1, vi 1] [(.int ((-2147483648 : Int32) + (1 : Int32))), (.ref a1)])) _
  rw [show ((-2147483648 : Int32) + (1 : Int32)) = (-2147483647 : Int32) from by decide]
  refine g_putF X1 hx hZ hown (Wd94 hw) e1 O_a1.2.2.2.2.2.2 O_a1.1 (Or.inl (Wd84 hw)) (Wd76 hw) fd_0 rfl rfl (hb hby d22_7) (fun T2 h2 X2 e2 W2 => ?_)
  have N2 := Fr.snoc X2 N0 g_a1
  have O_a1_2 := R_ND_set_redAndLeftCount hw W2 O_a1
  have K2 := Keep.wr K0 W2 (mw 0 rfl)
  exact own_retV X2 hx hret hlk (hb hby d22_10) (by decide) (by decide) (by rw [e2]; exact ⟨rfl, N2, K2, O_a1_2⟩)
theorem ef_19_RR (m : MethodId) (x0 x1 : Addr) : entryFrame m #[(.ref x0), (.ref x1)] 3 = mkF m 0 #[vr x0, vr x1, vu] [] := by first | (simp [entryFrame, mkF, argsToLocals, Value.category]; done) | rfl
theorem d19_0 : decode B28 0 = .ok (.aload_n 1, 1) := by decide +kernel
theorem d19_1 : decode B28 1 = .ok (.getfield 214, 3) := by decide +kernel
theorem d19_4 : decode B28 4 = .ok (.astore_n 2, 1) := by decide +kernel
theorem d19_5 : decode B28 5 = .ok (.aload_n 1, 1) := by decide +kernel
theorem d19_6 : decode B28 6 = .ok (.aload_n 2, 1) := by decide +kernel
theorem d19_7 : decode B28 7 = .ok (.getfield 211, 3) := by decide +kernel
theorem d19_10 : decode B28 10 = .ok (.putfield 214, 3) := by decide +kernel
theorem d19_13 : decode B28 13 = .ok (.aload_n 2, 1) := by decide +kernel
theorem d19_14 : decode B28 14 = .ok (.getfield 211, 3) := by decide +kernel
theorem d19_17 : decode B28 17 = .ok (.ifnull 11, 3) := by decide +kernel
theorem d19_28 : decode B28 28 = .ok (.aload_n 0, 1) := by decide +kernel
theorem d19_29 : decode B28 29 = .ok (.aload_n 1, 1) := by decide +kernel
theorem d19_30 : decode B28 30 = .ok (.aload_n 2, 1) := by decide +kernel
theorem d19_31 : decode B28 31 = .ok (.invokevirtual 293, 3) := by decide +kernel
theorem d19_34 : decode B28 34 = .ok (.aload_n 2, 1) := by decide +kernel
theorem d19_35 : decode B28 35 = .ok (.aload_n 1, 1) := by decide +kernel
theorem d19_36 : decode B28 36 = .ok (.putfield 211, 3) := by decide +kernel
theorem d19_39 : decode B28 39 = .ok (.aload_n 1, 1) := by decide +kernel
theorem d19_40 : decode B28 40 = .ok (.aload_n 2, 1) := by decide +kernel
theorem d19_41 : decode B28 41 = .ok (.putfield 282, 3) := by decide +kernel
theorem d19_44 : decode B28 44 = .ok (.aload_n 2, 1) := by decide +kernel
theorem d19_45 : decode B28 45 = .ok (.aload_n 1, 1) := by decide +kernel
theorem d19_46 : decode B28 46 = .ok (.invokestatic 229, 3) := by decide +kernel
theorem d19_49 : decode B28 49 = .ok (.iconst 1, 1) := by decide +kernel
theorem d19_50 : decode B28 50 = .ok (.iadd, 1) := by decide +kernel
theorem d19_51 : decode B28 51 = .ok (.invokestatic 221, 3) := by decide +kernel
theorem d19_54 : decode B28 54 = .ok (.aload_n 0, 1) := by decide +kernel
theorem d19_55 : decode B28 55 = .ok (.aload_n 1, 1) := by decide +kernel
theorem d19_56 : decode B28 56 = .ok (.invokevirtual 297, 3) := by decide +kernel
theorem d19_59 : decode B28 59 = .ok (.aload_n 0, 1) := by decide +kernel
theorem d19_60 : decode B28 60 = .ok (.aload_n 2, 1) := by decide +kernel
theorem d19_61 : decode B28 61 = .ok (.invokevirtual 297, 3) := by decide +kernel
theorem d19_64 : decode B28 64 = .ok (.return_, 1) := by decide +kernel
theorem rm_rotateLeft_73 (hw : HW a0 Z) (a1 a2 a3 : Addr) (i1 : Int32) (a4 a5 : Addr) (a6 a7 a8 : Addr) (i2 : Int32) (a9 a10 : Addr) (i3 i4 : Int32) (h0 : Heap) (n0 : Nat) (Z0 : n0 ≤ h0.size) (O_a1 : R_MP Z h0 a1 .null (.ref a3) (.int 3) (.int i1)) (O_a2 : R_ND Z h0 a2 (.ref a4) (.ref a5) .null (.ref a6) (.ref a3) (.int (-2147483648))) (O_a3 : R_ND Z h0 a3 (.ref a7) (.ref a8) (.ref a2) .null .null (.int 2)) (O_a6 : R_ND Z h0 a6 (.ref a9) (.ref a10) .null .null (.ref a2) (.int (-2147483648))) (ne_a1_a2 : a1 ≠ a2) (ne_a1_a3 : a1 ≠ a3) (ne_a1_a6 : a1 ≠ a6) (ne_a2_a3 : a2 ≠ a3) (ne_a2_a6 : a2 ≠ a6) (ne_a3_a6 : a3 ≠ a6) (g_a2 : n0 ≤ a2) (g_a3 : n0 ≤ a3) (g_a6 : n0 ≤ a6) (hk0 : i4 < i3) (hk1 : ¬ (i4 < i2)) (hk2 : ¬ (i4 = i2)) :
    Ctr l Y29 B28 3 none [] (rmk 1 0 0 15) Z #[(.ref a1), (.ref a2)] h0 (fun v h L => v = none ∧ Fr n0 L ∧ Keep h0 h [a2, a3, a6] ∧ R_ND Z h a2 (.ref a4) (.ref a5) .null .null (.ref a6) (.int (-2147483648)) ∧ R_ND Z h a3 (.ref a7) (.ref a8) (.ref a6) .null .null (.int 2) ∧ R_ND Z h a6 (.ref a9) (.ref a10) (.ref a2) .null (.ref a3) (.int (-2147483647))) := by
  refine own_enter pn_2 (fun p e s m below meth c s₁ hx hby hml hown hnm hret hlk hZ X0 e0 => ?_)
  have D {q : Nat} {r} (z : decode B28 q = r) : decode c.code q = r := hb hby z
  have N0 := Fr.nil n0
  have K0 := Keep.refl h0 [a2, a3, a6]
  rw [ef_19_RR m _ _]
  refine g_aloadN X0 hx (D d19_0) rfl rfl ?_
  refine g_getF X0 hx hZ hown (Wd103 hw) e0 O_a2.2.2.2.2.1 (D d19_1) (fun T1 X1 e1 => ?_)
  refine g_astoreN X1 hx #[vr a1, vr a2, vr a6] (D d19_4) rfl rfl ?_
  refine g_aloadN X1 hx (D d19_5) rfl rfl ?_
  refine g_aloadN X1 hx (D d19_6) rfl rfl ?_
  refine g_getF X1 hx hZ hown (Wd101 hw) e1 O_a6.2.2.2.1 (D d19_7) (fun T2 X2 e2 => ?_)
  refine g_putF X2 hx hZ hown (Wd103 hw) e2 O_a2.2.2.2.2.1 O_a2.1 (Or.inl (Wd104 hw)) (Wd76 hw) fd_2 rfl rfl (D d19_10) (fun T3 h3 X3 e3 W3 => ?_)
  have N3 := Fr.snoc X3 N0 g_a2
  have O_a1_3 := R_MP_other W3 O_a1 ne_a1_a2
  have O_a2_3 := R_ND_set_right hw W3 O_a2
  have O_a3_3 := R_ND_other W3 O_a3 ne_a2_a3.symm
  have O_a6_3 := R_ND_other W3 O_a6 ne_a2_a6.symm
  have Z3 : n0 ≤ h3.size := Nat.le_trans Z0 (Nat.le_of_eq W3.size.symm)
  have K3 := Keep.wr K0 W3 (mw 0 rfl)
  refine g_aloadN X3 hx (D d19_13) rfl rfl ?_
  refine g_getF X3 hx hZ hown (Wd101 hw) e3 O_a6_3.2.2.2.1 (D d19_14) (fun T4 X4 e4 => ?_)
  refine g_nullYes X4 hx 28 (D d19_17) (by decide) (by decide) ?_
  refine g_aloadN X4 hx (D d19_28) rfl rfl ?_
  refine g_aloadN X4 hx (D d19_29) rfl rfl ?_
  refine g_aloadN X4 hx (D d19_30) rfl rfl ?_
  refine g_P X4 hx hZ hown (lk23 hw) (rm_replaceInParent_74 hw a1 a2 a6 a3 a4 a5 a9 a10 a7 a8 i2 i4 i3 h3 n0 Z3 O_a2_3 O_a6_3 O_a3_3 ne_a3_a6.symm g_a6 g_a3 hk0 hk1 hk2) e4 O_a1_3.1 (D d19_31) hml.symm rfl rfl (Nat.le_refl _) (by decide) (fun v5 T5 L5 X5 q5 => ?_)
  obtain ⟨rfl, M5, Kc5, Rk5_0, Rk5_1⟩ := q5
  have N5 := Fr.app N3 M5
  have O_a1_5 := R_MP_keep O_a1_3 Kc5 (own_nin ne_a1_a6 (own_nin ne_a1_a3 nl))
  have O_a2_5 := R_ND_keep O_a2_3 Kc5 (own_nin ne_a2_a6 (own_nin ne_a2_a3 nl))
  have K5 := Keep.trans K3 Kc5 (own_memc (mw 2 rfl) (own_memc (mw 1 rfl) own_memn))
  have Z5 : n0 ≤ T5.heap.size := Nat.le_trans Z3 Kc5.1
  refine g_aloadN X5 hx (D d19_34) rfl rfl ?_
  refine g_aloadN X5 hx (D d19_35) rfl rfl ?_
  refine g_putF X5 hx hZ hown (Wd101 hw) (rfl : T5.heap = T5.heap) Rk5_0.2.2.2.1 Rk5_0.1 (Or.inl (Wd102 hw)) (Wd76 hw) fd_2 rfl rfl (D d19_36) (fun T6 h6 X6 e6 W6 => ?_)
  have N6 := Fr.snoc X6 N5 g_a6
  have O_a1_6 := R_MP_other W6 O_a1_5 ne_a1_a6
  have O_a2_6 := R_ND_other W6 O_a2_5 ne_a2_a6
  have O_a6_6 := R_ND_set_left hw W6 Rk5_0
  have O_a3_6 := R_ND_other W6 Rk5_1 ne_a3_a6
  have Z6 : n0 ≤ h6.size := Nat.le_trans Z5 (Nat.le_of_eq W6.size.symm)
  have K6 := Keep.wr K5 W6 (mw 2 rfl)
  refine g_aloadN X6 hx (D d19_39) rfl rfl ?_
  refine g_aloadN X6 hx (D d19_40) rfl rfl ?_
  refine g_putF X6 hx hZ hown (Wd117 hw) e6 O_a2_6.2.2.2.2.2.1 O_a2_6.1 (Or.inl (Wd90 hw)) (Wd76 hw) fd_2 rfl rfl (D d19_41) (fun T7 h7 X7 e7 W7 => ?_)
  have N7 := Fr.snoc X7 N6 g_a2
  have O_a1_7 := R_MP_other W7 O_a1_6 ne_a1_a2
  have O_a2_7 := R_ND_set_parent hw W7 O_a2_6
  have O_a6_7 := R_ND_other W7 O_a6_6 ne_a2_a6.symm
  have O_a3_7 := R_ND_other W7 O_a3_6 ne_a2_a3.symm
  have Z7 : n0 ≤ h7.size := Nat.le_trans Z6 (Nat.le_of_eq W7.size.symm)
  have K7 := Keep.wr K6 W7 (mw 0 rfl)
  refine g_aloadN X7 hx (D d19_44) rfl rfl ?_
  refine g_aloadN X7 hx (D d19_45) rfl rfl ?_
  refine g_S X7 hx hZ hown (lk24 hw) (rm_leftCount_75 hw a2 a4 a5 a6 h7 n0 Z7 O_a2_7) e7 (D d19_46) hml.symm rfl (rest := [(.ref a6)]) rfl (W := 1) (Nat.le_of_eq rfl) (by decide) (fun v8 T8 L8 X8 q8 => ?_)
  obtain ⟨rfl, M8, e8⟩ := q8
  have N8 := Fr.app N7 M8
  refine g_iconst X8 hx (1 : Int32) (D d19_49) (by decide) ?_
  refine g_iadd X8 hx (D d19_50) ?_
  show Go p e below (T8.setTop (mkF m 51 #[vr a1, vr a2, vr a6] [(.int ((0 : Int32) + (1 : Int32))), (.ref a6)])) _
  rw [show ((0 : Int32) + (1 : Int32)) = (1 : Int32) from by decide]
  refine g_S X8 hx hZ hown (lk11 hw) (rm_addToLeftCount_76 hw a6 a9 a10 a2 a3 h7 n0 Z7 O_a6_7 g_a6) e8 (D d19_51) hml.symm rfl rfl (Nat.le_refl _) (by decide) (fun v9 T9 L9 X9 q9 => ?_)
  obtain ⟨rfl, M9, Kc9, Rk9_0⟩ := q9
  have N9 := Fr.app N8 M9
  have O_a1_9 := R_MP_keep O_a1_7 Kc9 (own_nin ne_a1_a6 nl)
  have O_a2_9 := R_ND_keep O_a2_7 Kc9 (own_nin ne_a2_a6 nl)
  have O_a3_9 := R_ND_keep O_a3_7 Kc9 (own_nin ne_a3_a6 nl)
  have K9 := Keep.trans K7 Kc9 (own_memc (mw 2 rfl) own_memn)
  have Z9 : n0 ≤ T9.heap.size := Nat.le_trans Z7 Kc9.1
  refine g_aloadN X9 hx (D d19_54) rfl rfl ?_
  refine g_aloadN X9 hx (D d19_55) rfl rfl ?_
  refine g_V X9 hx hZ hown (lk25 hw) (rm_refresh_57 hw a1 a2 T9.heap n0 Z9 ) (rfl : T9.heap = T9.heap) O_a1_9.1 (D d19_56) hml.symm rfl rfl (Nat.le_refl _) (by decide) (fun v10 T10 L10 X10 q10 => ?_)
  obtain ⟨rfl, M10, e10⟩ := q10
  have N10 := Fr.app N9 M10
  refine g_aloadN X10 hx (D d19_59) rfl rfl ?_
  refine g_aloadN X10 hx (D d19_60) rfl rfl ?_
  refine g_V X10 hx hZ hown (lk25 hw) (rm_refresh_57 hw a1 a6 T9.heap n0 Z9 ) e10 O_a1_9.1 (D d19_61) hml.symm rfl rfl (Nat.le_refl _) (by decide) (fun v11 T11 L11 X11 q11 => ?_)
  obtain ⟨rfl, M11, e11⟩ := q11
  have N11 := Fr.app N10 M11
  exact own_retV X11 hx hret hlk (D d19_64) (by decide) (by decide) (by rw [e11]; exact ⟨rfl, N11, K9, O_a2_9, O_a3_9, Rk9_0⟩)
theorem lk28 {Z : State} {a0 : Array Value} (hw : HW a0 Z) : LkP "com/example/rosewood/rosewood/RosewoodMap" 304 Y29 7 B28 3 none [F1_] none a0 Z := ⟨(hw _ (List.mem_of_getElem? (i := 122) rfl)), (hw _ (List.mem_of_getElem? (i := 123) rfl)), (hw _ (List.mem_of_getElem? (i := 124) rfl)), (Wd2 hw), (hw _ (List.mem_of_getElem? (i := 125) rfl)), (Wd3 hw), by decide, pd_14⟩
theorem rm_replaceInParent_78 (hw : HW a0 Z) (a1 a2 a3 : Addr) (i1 : Int32) (a4 a5 : Addr) (a6 a7 a8 : Addr) (i2 i3 i4 : Int32) (h0 : Heap) (n0 : Nat) (Z0 : n0 ≤ h0.size) (O_a1 : R_MP Z h0 a1 .null (.ref a2) (.int 3) (.int i1)) (O_a2 : R_ND Z h0 a2 (.ref a4) (.ref a5) .null .null .null (.int (-2147483646))) (O_a3 : R_ND Z h0 a3 (.ref a6) (.ref a7) (.ref a8) .null (.ref a2) (.int 1)) (ne_a1_a3 : a1 ≠ a3) (g_a1 : n0 ≤ a1) (g_a3 : n0 ≤ a3) (hk0 : i3 < i2) (hk1 : ¬ (i3 < i4)) (hk2 : ¬ (i3 = i4)) :
    Ctr l Y24 B23 4 none [] (rmk 0 0 0 0) Z #[(.ref a1), (.ref a2), (.ref a3)] h0 (fun v h L => v = none ∧ Fr n0 L ∧ Keep h0 h [a1, a3] ∧ R_MP Z h a1 .null (.ref a3) (.int 3) (.int i1) ∧ R_ND Z h a3 (.ref a6) (.ref a7) (.ref a8) .null .null (.int 1)) := by
  refine own_enter pn_2 (fun p e s m below meth c s₁ hx hby hml hown hnm hret hlk hZ X0 e0 => ?_)
  have N0 := Fr.nil n0
  have K0 := Keep.refl h0 [a1, a3]
  rw [ef_20_RRR m _ _ _]
  refine g_aloadN X0 hx (hb hby d20_0) rfl rfl ?_
  refine g_getF X0 hx hZ hown (Wd117 hw) e0 O_a2.2.2.2.2.2.1 (hb hby d20_1) (fun T1 X1 e1 => ?_)
  refine g_astoreN X1 hx #[vr a1, vr a2, vr a3, vn] (hb hby d20_4) rfl rfl ?_
  refine g_aloadN X1 hx (hb hby d20_5) rfl rfl ?_
  refine g_nonnullNo X1 hx (hb hby d20_6) ?_
  refine g_aloadN X1 hx (hb hby d20_9) rfl rfl ?_
  refine g_aloadN X1 hx (hb hby d20_10) rfl rfl ?_
  refine g_putF X1 hx hZ hown (Wd25 hw) e1 O_a1.2.2.1 O_a1.1 (Or.inl (Wd26 hw)) (Wd2 hw) fd_2 rfl rfl (hb hby d20_11) (fun T2 h2 X2 e2 W2 => ?_)
  have N2 := Fr.snoc X2 N0 g_a1
  have O_a1_2 := R_MP_set_root hw W2 O_a1
  have O_a3_2 := R_ND_other W2 O_a3 ne_a1_a3.symm
  have K2 := Keep.wr K0 W2 (mw 0 rfl)
  refine g_goto X2 hx 38 (hb hby d20_14) (by decide) (by decide) ?_
  refine g_aloadN X2 hx (hb hby d20_38) rfl rfl ?_
  refine g_nullNo X2 hx (hb hby d20_39) ?_
  refine g_aloadN X2 hx (hb hby d20_42) rfl rfl ?_
  refine g_aloadN X2 hx (hb hby d20_43) rfl rfl ?_
  refine g_putF X2 hx hZ hown (Wd117 hw) e2 O_a3_2.2.2.2.2.2.1 O_a3_2.1 (Or.inl (Wd90 hw)) (Wd76 hw) fd_2 rfl rfl (hb hby d20_44) (fun T3 h3 X3 e3 W3 => ?_)
  have N3 := Fr.snoc X3 N2 g_a3
  have O_a1_3 := R_MP_other W3 O_a1_2 ne_a1_a3
  have O_a3_3 := R_ND_set_parent hw W3 O_a3_2
  have K3 := Keep.wr K2 W3 (mw 1 rfl)
  exact own_retV X3 hx hret hlk (hb hby d20_47) (by decide) (by decide) (by rw [e3]; exact ⟨rfl, N3, K3, O_a1_3, O_a3_3⟩)
theorem rm_rotateRight_77 (hw : HW a0 Z) (a1 a2 : Addr) (i1 : Int32) (a3 a4 a5 : Addr) (i2 : Int32) (a6 a7 a8 : Addr) (i3 i4 : Int32) (h0 : Heap) (n0 : Nat) (Z0 : n0 ≤ h0.size) (O_a1 : R_MP Z h0 a1 .null (.ref a2) (.int 3) (.int i1)) (O_a2 : R_ND Z h0 a2 (.ref a3) (.ref a4) (.ref a5) .null .null (.int (-2147483646))) (O_a5 : R_ND Z h0 a5 (.ref a6) (.ref a7) (.ref a8) .null (.ref a2) (.int 1)) (ne_a1_a2 : a1 ≠ a2) (ne_a1_a5 : a1 ≠ a5) (ne_a2_a5 : a2 ≠ a5) (g_a1 : n0 ≤ a1) (g_a2 : n0 ≤ a2) (g_a5 : n0 ≤ a5) (hk0 : i3 < i2) (hk1 : ¬ (i3 < i4)) (hk2 : ¬ (i3 = i4)) :
    Ctr l Y27 B26 3 none [] (rmk 1 0 0 15) Z #[(.ref a1), (.ref a2)] h0 (fun v h L => v = none ∧ Fr n0 L ∧ Keep h0 h [a1, a2, a5] ∧ R_MP Z h a1 .null (.ref a5) (.int 3) (.int i1) ∧ R_ND Z h a2 (.ref a3) (.ref a4) .null .null (.ref a5) (.int (-2147483648)) ∧ R_ND Z h a5 (.ref a6) (.ref a7) (.ref a8) (.ref a2) .null (.int 1)) := by
  refine own_enter pn_2 (fun p e s m below meth c s₁ hx hby hml hown hnm hret hlk hZ X0 e0 => ?_)
  have D {q : Nat} {r} (z : decode B26 q = r) : decode c.code q = r := hb hby z
  have N0 := Fr.nil n0
  have K0 := Keep.refl h0 [a1, a2, a5]
  rw [ef_32_RR m _ _]
  refine g_aloadN X0 hx (D d32_0) rfl rfl ?_
  refine g_getF X0 hx hZ hown (Wd101 hw) e0 O_a2.2.2.2.1 (D d32_1) (fun T1 X1 e1 => ?_)
  refine g_astoreN X1 hx #[vr a1, vr a2, vr a5] (D d32_4) rfl rfl ?_
  refine g_aloadN X1 hx (D d32_5) rfl rfl ?_
  refine g_aloadN X1 hx (D d32_6) rfl rfl ?_
  refine g_getF X1 hx hZ hown (Wd103 hw) e1 O_a5.2.2.2.2.1 (D d32_7) (fun T2 X2 e2 => ?_)
  refine g_putF X2 hx hZ hown (Wd101 hw) e2 O_a2.2.2.2.1 O_a2.1 (Or.inl (Wd102 hw)) (Wd76 hw) fd_2 rfl rfl (D d32_10) (fun T3 h3 X3 e3 W3 => ?_)
  have N3 := Fr.snoc X3 N0 g_a2
  have O_a1_3 := R_MP_other W3 O_a1 ne_a1_a2
  have O_a2_3 := R_ND_set_left hw W3 O_a2
  have O_a5_3 := R_ND_other W3 O_a5 ne_a2_a5.symm
  have Z3 : n0 ≤ h3.size := Nat.le_trans Z0 (Nat.le_of_eq W3.size.symm)
  have K3 := Keep.wr K0 W3 (mw 1 rfl)
  refine g_aloadN X3 hx (D d32_13) rfl rfl ?_
  refine g_getF X3 hx hZ hown (Wd103 hw) e3 O_a5_3.2.2.2.2.1 (D d32_14) (fun T4 X4 e4 => ?_)
  refine g_nullYes X4 hx 28 (D d32_17) (by decide) (by decide) ?_
  refine g_aloadN X4 hx (D d32_28) rfl rfl ?_
  refine g_aloadN X4 hx (D d32_29) rfl rfl ?_
  refine g_aloadN X4 hx (D d32_30) rfl rfl ?_
  refine g_P X4 hx hZ hown (lk23 hw) (rm_replaceInParent_78 hw a1 a2 a5 i1 a3 a4 a6 a7 a8 i2 i3 i4 h3 n0 Z3 O_a1_3 O_a2_3 O_a5_3 ne_a1_a5 g_a1 g_a5 hk0 hk1 hk2) e4 O_a1_3.1 (D d32_31) hml.symm rfl rfl (Nat.le_refl _) (by decide) (fun v5 T5 L5 X5 q5 => ?_)
  obtain ⟨rfl, M5, Kc5, Rk5_0, Rk5_1⟩ := q5
  have N5 := Fr.app N3 M5
  have O_a2_5 := R_ND_keep O_a2_3 Kc5 (own_nin ne_a1_a2.symm (own_nin ne_a2_a5 nl))
  have K5 := Keep.trans K3 Kc5 (own_memc (mw 0 rfl) (own_memc (mw 2 rfl) own_memn))
  have Z5 : n0 ≤ T5.heap.size := Nat.le_trans Z3 Kc5.1
  refine g_aloadN X5 hx (D d32_34) rfl rfl ?_
  refine g_aloadN X5 hx (D d32_35) rfl rfl ?_
  refine g_putF X5 hx hZ hown (Wd103 hw) (rfl : T5.heap = T5.heap) Rk5_1.2.2.2.2.1 Rk5_1.1 (Or.inl (Wd104 hw)) (Wd76 hw) fd_2 rfl rfl (D d32_36) (fun T6 h6 X6 e6 W6 => ?_)
  have N6 := Fr.snoc X6 N5 g_a5
  have O_a2_6 := R_ND_other W6 O_a2_5 ne_a2_a5
  have O_a1_6 := R_MP_other W6 Rk5_0 ne_a1_a5
  have O_a5_6 := R_ND_set_right hw W6 Rk5_1
  have Z6 : n0 ≤ h6.size := Nat.le_trans Z5 (Nat.le_of_eq W6.size.symm)
  have K6 := Keep.wr K5 W6 (mw 2 rfl)
  refine g_aloadN X6 hx (D d32_39) rfl rfl ?_
  refine g_aloadN X6 hx (D d32_40) rfl rfl ?_
  refine g_putF X6 hx hZ hown (Wd117 hw) e6 O_a2_6.2.2.2.2.2.1 O_a2_6.1 (Or.inl (Wd90 hw)) (Wd76 hw) fd_2 rfl rfl (D d32_41) (fun T7 h7 X7 e7 W7 => ?_)
  have N7 := Fr.snoc X7 N6 g_a2
  have O_a2_7 := R_ND_set_parent hw W7 O_a2_6
  have O_a1_7 := R_MP_other W7 O_a1_6 ne_a1_a2
  have O_a5_7 := R_ND_other W7 O_a5_6 ne_a2_a5.symm
  have Z7 : n0 ≤ h7.size := Nat.le_trans Z6 (Nat.le_of_eq W7.size.symm)
  have K7 := Keep.wr K6 W7 (mw 1 rfl)
  refine g_aloadN X7 hx (D d32_44) rfl rfl ?_
  refine g_aloadN X7 hx (D d32_45) rfl rfl ?_
  refine g_S X7 hx hZ hown (lk24 hw) (rm_leftCount_55 hw a5 a6 a7 a8 a2 h7 n0 Z7 O_a5_7) e7 (D d32_46) hml.symm rfl (rest := [(.ref a2)]) rfl (W := 1) (Nat.le_of_eq rfl) (by decide) (fun v8 T8 L8 X8 q8 => ?_)
  obtain ⟨rfl, M8, e8⟩ := q8
  have N8 := Fr.app N7 M8
  refine Go.mp (fun _ k => XS.ineg X8.here hx rfl (D d32_49) rfl k) ?_
  show Go p e below (T8.setTop (mkF m 50 #[vr a1, vr a2, vr a5] [(.int (-(1 : Int32))), (.ref a2)])) _
  refine g_iconst X8 hx (1 : Int32) (D d32_50) (by decide) ?_
  refine g_isub X8 hx (D d32_51) ?_
  show Go p e below (T8.setTop (mkF m 52 #[vr a1, vr a2, vr a5] [(.int ((-(1 : Int32)) - (1 : Int32))), (.ref a2)])) _
  rw [show ((-(1 : Int32)) - (1 : Int32)) = (-2 : Int32) from by decide]
  refine g_S X8 hx hZ hown (lk11 hw) (rm_addToLeftCount_56 hw a2 a3 a4 a5 h7 n0 Z7 O_a2_7 g_a2) e8 (D d32_52) hml.symm rfl rfl (Nat.le_refl _) (by decide) (fun v9 T9 L9 X9 q9 => ?_)
  obtain ⟨rfl, M9, Kc9, Rk9_0⟩ := q9
  have N9 := Fr.app N8 M9
  have O_a1_9 := R_MP_keep O_a1_7 Kc9 (own_nin ne_a1_a2 nl)
  have O_a5_9 := R_ND_keep O_a5_7 Kc9 (own_nin ne_a2_a5.symm nl)
  have K9 := Keep.trans K7 Kc9 (own_memc (mw 1 rfl) own_memn)
  have Z9 : n0 ≤ T9.heap.size := Nat.le_trans Z7 Kc9.1
  refine g_aloadN X9 hx (D d32_55) rfl rfl ?_
  refine g_aloadN X9 hx (D d32_56) rfl rfl ?_
  refine g_V X9 hx hZ hown (lk25 hw) (rm_refresh_57 hw a1 a2 T9.heap n0 Z9 ) (rfl : T9.heap = T9.heap) O_a1_9.1 (D d32_57) hml.symm rfl rfl (Nat.le_refl _) (by decide) (fun v10 T10 L10 X10 q10 => ?_)
  obtain ⟨rfl, M10, e10⟩ := q10
  have N10 := Fr.app N9 M10
  refine g_aloadN X10 hx (D d32_60) rfl rfl ?_
  refine g_aloadN X10 hx (D d32_61) rfl rfl ?_
  refine g_V X10 hx hZ hown (lk25 hw) (rm_refresh_57 hw a1 a5 T9.heap n0 Z9 ) e10 O_a1_9.1 (D d32_62) hml.symm rfl rfl (Nat.le_refl _) (by decide) (fun v11 T11 L11 X11 q11 => ?_)
  obtain ⟨rfl, M11, e11⟩ := q11
  have N11 := Fr.app N10 M11
  exact own_retV X11 hx hret hlk (D d32_65) (by decide) (by decide) (by rw [e11]; exact ⟨rfl, N11, K9, O_a1_9, Rk9_0, O_a5_9⟩)
theorem d17_78 : decode B17 78 = .ok (.aload_n 0, 1) := by decide +kernel
theorem d17_79 : decode B17 79 = .ok (.aload_n 3, 1) := by decide +kernel
theorem d17_80 : decode B17 80 = .ok (.invokevirtual 304, 3) := by decide +kernel
theorem d17_83 : decode B17 83 = .ok (.aload_n 3, 1) := by decide +kernel
theorem d17_84 : decode B17 84 = .ok (.astore_n 2, 1) := by decide +kernel
theorem d17_85 : decode B17 85 = .ok (.aload_n 2, 1) := by decide +kernel
theorem d17_86 : decode B17 86 = .ok (.getfield 282, 3) := by decide +kernel
theorem d17_89 : decode B17 89 = .ok (.astore_n 3, 1) := by decide +kernel
theorem rm_balanceAfterInsert_71 (hw : HW a0 Z) (a1 a2 a3 : Addr) (i1 : Int32) (a4 a5 : Addr) (a6 a7 a8 : Addr) (i2 : Int32) (a9 a10 : Addr) (i3 i4 : Int32) (h0 : Heap) (n0 : Nat) (Z0 : n0 ≤ h0.size) (O_a1 : R_MP Z h0 a1 .null (.ref a3) (.int 3) (.int i1)) (O_a2 : R_ND Z h0 a2 (.ref a4) (.ref a5) .null .null (.ref a6) (.int (-2147483648))) (O_a3 : R_ND Z h0 a3 (.ref a7) (.ref a8) (.ref a6) .null .null (.int 2)) (O_a6 : R_ND Z h0 a6 (.ref a9) (.ref a10) .null (.ref a2) (.ref a3) (.int (-2147483648))) (ne_a1_a2 : a1 ≠ a2) (ne_a1_a3 : a1 ≠ a3) (ne_a1_a6 : a1 ≠ a6) (ne_a2_a3 : a2 ≠ a3) (ne_a2_a6 : a2 ≠ a6) (ne_a3_a6 : a3 ≠ a6) (g_a1 : n0 ≤ a1) (g_a2 : n0 ≤ a2) (g_a3 : n0 ≤ a3) (g_a6 : n0 ≤ a6) (hk0 : i2 < i3) (hk1 : ¬ (i2 < i4)) (hk2 : ¬ (i2 = i4)) :
    Ctr l Y18 B17 6 none [] (rmk 2 0 0 29) Z #[(.ref a1), (.ref a2)] h0 (fun v h L => v = none ∧ Fr n0 L ∧ Keep h0 h [a1, a2, a3, a6] ∧ R_MP Z h a1 .null (.ref a2) (.int 3) (.int i1) ∧ R_ND Z h a2 (.ref a4) (.ref a5) (.ref a6) (.ref a3) .null (.int 1) ∧ R_ND Z h a3 (.ref a7) (.ref a8) .null .null (.ref a2) (.int (-2147483648)) ∧ R_ND Z h a6 (.ref a9) (.ref a10) .null .null (.ref a2) (.int (-2147483648))) := by
  refine own_enter pn_2 (fun p e s m below meth c s₁ hx hby hml hown hnm hret hlk hZ X0 e0 => ?_)
  have D {q : Nat} {r} (z : decode B17 q = r) : decode c.code q = r := hb hby z
  have N0 := Fr.nil n0
  have K0 := Keep.refl h0 [a1, a2, a3, a6]
  rw [ef_17_RR m _ _]
  refine g_aloadN X0 hx (D d17_0) rfl rfl ?_
  refine g_astoreN X0 hx #[vr a1, vr a2, vr a2, vu, vu, vu] (D d17_1) rfl rfl ?_
  refine g_aloadN X0 hx (D d17_2) rfl rfl ?_
  refine g_getF X0 hx hZ hown (Wd117 hw) e0 O_a2.2.2.2.2.2.1 (D d17_3) (fun T1 X1 e1 => ?_)
  refine g_S X1 hx hZ hown (lk15 hw) (rm_isRed_72 hw a6 a9 a10 a2 a3 h0 n0 Z0 O_a6) e1 (D d17_6) hml.symm rfl rfl (Nat.le_refl _) (by decide) (fun v2 T2 L2 X2 q2 => ?_)
  obtain ⟨rfl, M2, e2⟩ := q2
  have N2 := Fr.app N0 M2
  refine g_ifNo X2 hx (D d17_9) ((if0 _ _).trans (feq ((by decide) : ¬ ((1 : Int32) = (0 : Int32)))).1) ?_
  refine g_aloadN X2 hx (D d17_12) rfl rfl ?_
  refine g_getF X2 hx hZ hown (Wd117 hw) e2 O_a2.2.2.2.2.2.1 (D d17_13) (fun T3 X3 e3 => ?_)
  refine g_astoreN X3 hx #[vr a1, vr a2, vr a2, vr a6, vu, vu] (D d17_16) rfl rfl ?_
  refine g_aloadN X3 hx (D d17_17) rfl rfl ?_
  refine g_getF X3 hx hZ hown (Wd117 hw) e3 O_a6.2.2.2.2.2.1 (D d17_18) (fun T4 X4 e4 => ?_)
  refine g_astore X4 hx #[vr a1, vr a2, vr a2, vr a6, vr a3, vu] (D d17_21) rfl rfl ?_
  refine g_aloadN X4 hx (D d17_23) rfl rfl ?_
  refine g_aload X4 hx (D d17_24) rfl rfl ?_
  refine g_getF X4 hx hZ hown (Wd101 hw) e4 O_a3.2.2.2.1 (D d17_26) (fun T5 X5 e5 => ?_)
  have c29_0 : a6 = a6 := rfl
  refine g_acmp X5 hx 32 true rfl rfl (D d17_29) (decide_eq_true (congrArg Value.ref c29_0)) (by decide) (by decide) ?_
  refine g_aload X5 hx (D d17_32) rfl rfl ?_
  refine g_getF X5 hx hZ hown (Wd103 hw) e5 O_a3.2.2.2.2.1 (D d17_34) (fun T6 X6 e6 => ?_)
  refine g_astore X6 hx #[vr a1, vr a2, vr a2, vr a6, vr a3, vn] (D d17_37) rfl rfl ?_
  refine g_aload X6 hx (D d17_39) rfl rfl ?_
  refine g_S X6 hx hZ hown (lk15 hw) (rm_isRed_50 hw  h0 n0 Z0 ) e6 (D d17_41) hml.symm rfl rfl (Nat.le_refl _) (by decide) (fun v7 T7 L7 X7 q7 => ?_)
  obtain ⟨rfl, M7, e7⟩ := q7
  have N7 := Fr.app N2 M7
  refine g_ifYes X7 hx 70 (D d17_44) ((if0 _ _).trans (teq ((by decide) : (0 : Int32) = (0 : Int32))).1) (by decide) (by decide) ?_
  refine g_aloadN X7 hx (D d17_70) rfl rfl ?_
  refine g_aloadN X7 hx (D d17_71) rfl rfl ?_
  refine g_getF X7 hx hZ hown (Wd103 hw) e7 O_a6.2.2.2.2.1 (D d17_72) (fun T8 X8 e8 => ?_)
  have c75_0 : a2 = a2 := rfl
  refine g_acmp X8 hx 78 true rfl rfl (D d17_75) (decide_eq_true (congrArg Value.ref c75_0)) (by decide) (by decide) ?_
  refine g_aloadN X8 hx (D d17_78) rfl rfl ?_
  refine g_aloadN X8 hx (D d17_79) rfl rfl ?_
  refine g_P X8 hx hZ hown (lk28 hw) (rm_rotateLeft_73 hw a1 a6 a3 i1 a9 a10 a2 a7 a8 i4 a4 a5 i3 i2 h0 n0 Z0 O_a1 O_a6 O_a3 O_a2 ne_a1_a6 ne_a1_a3 ne_a1_a2 ne_a3_a6.symm ne_a2_a6.symm ne_a2_a3.symm g_a6 g_a3 g_a2 hk0 hk1 hk2) e8 O_a1.1 (D d17_80) hml.symm rfl rfl (Nat.le_refl _) (by decide) (fun v9 T9 L9 X9 q9 => ?_)
  obtain ⟨rfl, M9, Kc9, Rk9_0, Rk9_1, Rk9_2⟩ := q9
  have N9 := Fr.app N7 M9
  have O_a1_9 := R_MP_keep O_a1 Kc9 (own_nin ne_a1_a6 (own_nin ne_a1_a3 (own_nin ne_a1_a2 nl)))
  have K9 := Keep.trans K0 Kc9 (own_memc (mw 3 rfl) (own_memc (mw 2 rfl) (own_memc (mw 1 rfl) own_memn)))
  have Z9 : n0 ≤ T9.heap.size := Nat.le_trans Z0 Kc9.1
  refine g_aloadN X9 hx (D d17_83) rfl rfl ?_
  refine g_astoreN X9 hx #[vr a1, vr a2, vr a6, vr a6, vr a3, vn] (D d17_84) rfl rfl ?_
  refine g_aloadN X9 hx (D d17_85) rfl rfl ?_
  refine g_getF X9 hx hZ hown (Wd117 hw) (rfl : T9.heap = T9.heap) Rk9_0.2.2.2.2.2.1 (D d17_86) (fun T10 X10 e10 => ?_)
  refine g_astoreN X10 hx #[vr a1, vr a2, vr a6, vr a2, vr a3, vn] (D d17_89) rfl rfl ?_
  refine g_aloadN X10 hx (D d17_90) rfl rfl ?_
  refine g_iconst X10 hx (0 : Int32) (D d17_91) (by decide) ?_
  refine g_S X10 hx hZ hown (lk16 hw) (rm_setRed_51 hw a2 a4 a5 a6 a3 T9.heap n0 Z9 Rk9_2 g_a2) e10 (D d17_92) hml.symm rfl rfl (Nat.le_refl _) (by decide) (fun v11 T11 L11 X11 q11 => ?_)
  obtain ⟨rfl, M11, Kc11, Rk11_0⟩ := q11
  have N11 := Fr.app N9 M11
  have O_a1_11 := R_MP_keep O_a1_9 Kc11 (own_nin ne_a1_a2 nl)
  have O_a6_11 := R_ND_keep Rk9_0 Kc11 (own_nin ne_a2_a6.symm nl)
  have O_a3_11 := R_ND_keep Rk9_1 Kc11 (own_nin ne_a2_a3.symm nl)
  have K11 := Keep.trans K9 Kc11 (own_memc (mw 1 rfl) own_memn)
  have Z11 : n0 ≤ T11.heap.size := Nat.le_trans Z9 Kc11.1
  refine g_aload X11 hx (D d17_95) rfl rfl ?_
  refine g_iconst X11 hx (1 : Int32) (D d17_97) (by decide) ?_
  refine g_S X11 hx hZ hown (lk16 hw) (rm_setRed_52 hw a3 a7 a8 a2 T11.heap n0 Z11 O_a3_11 g_a3) (rfl : T11.heap = T11.heap) (D d17_98) hml.symm rfl rfl (Nat.le_refl _) (by decide) (fun v12 T12 L12 X12 q12 => ?_)
  obtain ⟨rfl, M12, Kc12, Rk12_0⟩ := q12
  have N12 := Fr.app N11 M12
  have O_a1_12 := R_MP_keep O_a1_11 Kc12 (own_nin ne_a1_a3 nl)
  have O_a6_12 := R_ND_keep O_a6_11 Kc12 (own_nin ne_a3_a6.symm nl)
  have O_a2_12 := R_ND_keep Rk11_0 Kc12 (own_nin ne_a2_a3 nl)
  have K12 := Keep.trans K11 Kc12 (own_memc (mw 2 rfl) own_memn)
  have Z12 : n0 ≤ T12.heap.size := Nat.le_trans Z11 Kc12.1
  refine g_aloadN X12 hx (D d17_101) rfl rfl ?_
  refine g_aload X12 hx (D d17_102) rfl rfl ?_
  refine g_P X12 hx hZ hown (lk26 hw) (rm_rotateRight_77 hw a1 a3 i1 a7 a8 a2 i3 a4 a5 a6 i2 i4 T12.heap n0 Z12 O_a1_12 Rk12_0 O_a2_12 ne_a1_a3 ne_a1_a2 ne_a2_a3.symm g_a1 g_a3 g_a2 hk0 hk1 hk2) (rfl : T12.heap = T12.heap) O_a1_12.1 (D d17_104) hml.symm rfl rfl (Nat.le_refl _) (by decide) (fun v13 T13 L13 X13 q13 => ?_)
  obtain ⟨rfl, M13, Kc13, Rk13_0, Rk13_1, Rk13_2⟩ := q13
  have N13 := Fr.app N12 M13
  have O_a6_13 := R_ND_keep O_a6_12 Kc13 (own_nin ne_a1_a6.symm (own_nin ne_a3_a6.symm (own_nin ne_a2_a6.symm nl)))
  have K13 := Keep.trans K12 Kc13 (own_memc (mw 0 rfl) (own_memc (mw 2 rfl) (own_memc (mw 1 rfl) own_memn)))
  have Z13 : n0 ≤ T13.heap.size := Nat.le_trans Z12 Kc13.1
  refine g_goto X13 hx 185 (D d17_107) (by decide) (by decide) ?_
  refine g_goto X13 hx 2 (D d17_185) (by decide) (by decide) ?_
  refine g_aloadN X13 hx (D d17_2) rfl rfl ?_
  refine g_getF X13 hx hZ hown (Wd117 hw) (rfl : T13.heap = T13.heap) O_a6_13.2.2.2.2.2.1 (D d17_3) (fun T14 X14 e14 => ?_)
  refine g_S X14 hx hZ hown (lk15 hw) (rm_isRed_58 hw a2 a4 a5 a6 a3 T13.heap n0 Z13 Rk13_2) e14 (D d17_6) hml.symm rfl rfl (Nat.le_refl _) (by decide) (fun v15 T15 L15 X15 q15 => ?_)
  obtain ⟨rfl, M15, e15⟩ := q15
  have N15 := Fr.app N13 M15
  refine g_ifYes X15 hx 188 (D d17_9) ((if0 _ _).trans (teq ((by decide) : (0 : Int32) = (0 : Int32))).1) (by decide) (by decide) ?_
  refine g_aloadN X15 hx (D d17_188) rfl rfl ?_
  refine g_getF X15 hx hZ hown (Wd25 hw) e15 Rk13_0.2.2.1 (D d17_189) (fun T16 X16 e16 => ?_)
  refine g_iconst X16 hx (0 : Int32) (D d17_192) (by decide) ?_
  refine g_S X16 hx hZ hown (lk16 hw) (rm_setRed_59 hw a2 a4 a5 a6 a3 T13.heap n0 Z13 Rk13_2 g_a2) e16 (D d17_193) hml.symm rfl rfl (Nat.le_refl _) (by decide) (fun v17 T17 L17 X17 q17 => ?_)
  obtain ⟨rfl, M17, Kc17, Rk17_0⟩ := q17
  have N17 := Fr.app N15 M17
  have O_a6_17 := R_ND_keep O_a6_13 Kc17 (own_nin ne_a2_a6.symm nl)
  have O_a1_17 := R_MP_keep Rk13_0 Kc17 (own_nin ne_a1_a2 nl)
  have O_a3_17 := R_ND_keep Rk13_1 Kc17 (own_nin ne_a2_a3.symm nl)
  have K17 := Keep.trans K13 Kc17 (own_memc (mw 1 rfl) own_memn)
  exact own_retV X17 hx hret hlk (D d17_196) (by decide) (by decide) (by rw [(rfl : T17.heap = T17.heap)]; exact ⟨rfl, N17, K17, O_a1_17, Rk17_0, O_a3_17, O_a6_17⟩)
theorem rm_addIfAbsent_69 (hw : HW a0 Z) (a1 a2 : Addr) (a3 a4 : Addr) (i1 i2 : Int32) (a5 a6 a7 : Addr) (i3 : Int32) (a8 a9 : Addr) (i4 : Int32) (h0 : Heap) (n0 : Nat) (Z0 : n0 ≤ h0.size) (O_a1 : R_MP Z h0 a1 .null (.ref a4) (.int 2) (.int i1)) (O_a2 : R_IN Z h0 a2 (.int i2)) (O_a4 : R_ND Z h0 a4 (.ref a5) (.ref a6) (.ref a7) .null .null (.int 1)) (O_a5 : R_IN Z h0 a5 (.int i3)) (O_a7 : R_ND Z h0 a7 (.ref a8) (.ref a9) .null .null (.ref a4) (.int (-2147483648))) (O_a8 : R_IN Z h0 a8 (.int i4)) (ne_a1_a4 : a1 ≠ a4) (ne_a1_a7 : a1 ≠ a7) (ne_a2_a4 : a2 ≠ a4) (ne_a4_a7 : a4 ≠ a7) (ne_a4_a8 : a4 ≠ a8) (g_a1 : n0 ≤ a1) (g_a4 : n0 ≤ a4) (g_a7 : n0 ≤ a7) (hk0 : i2 < i3) (hk1 : ¬ (i2 < i4)) (hk2 : ¬ (i2 = i4)) :
    CtrH l Y19 B18 15 (some F1_) [(71, 122, 210, 0), (137, 195, 210, 0), (210, 212, 210, 0)] (rmk 4 1 6 53) Z #[(.ref a1), (.ref a2), (.ref a3)] h0 (fun v h L => ∃ f1, v = some .null ∧ Fr n0 L ∧ Keep h0 h [a1, a4, a7] ∧ h0.size ≤ f1 ∧ R_MP Z h a1 .null (.ref f1) (.int 3) (.int (i1 + (1 : Int32))) ∧ R_ND Z h a4 (.ref a5) (.ref a6) .null .null (.ref f1) (.int (-2147483648)) ∧ R_ND Z h a7 (.ref a8) (.ref a9) .null .null (.ref f1) (.int (-2147483648)) ∧ R_ND Z h f1 (.ref a2) (.ref a3) (.ref a7) (.ref a4) .null (.int 1)) := by
  refine own_enterH pn_2 (fun p e s m below meth c s₁ hx hby hml hown hnm hret hlk hZ X0 e0 => ?_)
  have D {q : Nat} {r} (z : decode B18 q = r) : decode c.code q = r := hb hby z
  have N0 := Fr.nil n0
  have K0 := Keep.refl h0 [a1, a4, a7]
  rw [ef_33_RRR m _ _ _]
  refine g_aloadN X0 hx (D d33_0) rfl rfl ?_
  refine g_getF X0 hx hZ hown (Wd25 hw) e0 O_a1.2.2.1 (D d33_1) (fun T1 X1 e1 => ?_)
  refine g_nonnullYes X1 hx 50 (D d33_4) (by decide) (by decide) ?_
  refine g_null X1 hx (D d33_50) ?_
  refine g_astoreN X1 hx #[vr a1, vr a2, vr a3, vn, vu, vu, vu, vu, vu, vu, vu, vu, vu, vu, vu] (D d33_51) rfl rfl ?_
  refine g_iconst X1 hx (0 : Int32) (D d33_52) (by decide) ?_
  refine g_istore X1 hx #[vr a1, vr a2, vr a3, vn, vi 0, vu, vu, vu, vu, vu, vu, vu, vu, vu, vu] (D d33_53) rfl ?_
  refine g_aloadN X1 hx (D d33_55) rfl rfl ?_
  refine g_getF X1 hx hZ hown (Wd25 hw) e1 O_a1.2.2.1 (D d33_56) (fun T2 X2 e2 => ?_)
  refine g_astore X2 hx #[vr a1, vr a2, vr a3, vn, vi 0, vr a4, vu, vu, vu, vu, vu, vu, vu, vu, vu] (D d33_59) rfl rfl ?_
  refine g_aload X2 hx (D d33_61) rfl rfl ?_
  refine g_getF X2 hx hZ hown (Wd100 hw) e2 O_a4.2.1 (D d33_63) (fun T3 X3 e3 => ?_)
  refine g_astore X3 hx #[vr a1, vr a2, vr a3, vn, vi 0, vr a4, vr a5, vu, vu, vu, vu, vu, vu, vu, vu] (D d33_66) rfl rfl ?_
  refine g_null X3 hx (D d33_68) ?_
  refine g_astore X3 hx #[vr a1, vr a2, vr a3, vn, vi 0, vr a4, vr a5, vn, vu, vu, vu, vu, vu, vu, vu] (D d33_69) rfl rfl ?_
  refine g_aload X3 hx (D d33_71) rfl rfl ?_
  refine g_nullNo X3 hx (D d33_73) ?_
  refine g_aload X3 hx (D d33_76) rfl rfl ?_
  refine g_getF X3 hx hZ hown (Wd101 hw) e3 O_a4.2.2.2.1 (D d33_78) (fun T4 X4 e4 => ?_)
  refine g_astore X4 hx #[vr a1, vr a2, vr a3, vn, vi 0, vr a4, vr a5, vn, vr a7, vu, vu, vu, vu, vu, vu] (D d33_81) rfl rfl ?_
  refine g_aload X4 hx (D d33_83) rfl rfl ?_
  refine g_getF X4 hx hZ hown (Wd103 hw) e4 O_a4.2.2.2.2.1 (D d33_85) (fun T5 X5 e5 => ?_)
  refine g_astore X5 hx #[vr a1, vr a2, vr a3, vn, vi 0, vr a4, vr a5, vn, vr a7, vn, vu, vu, vu, vu, vu] (D d33_88) rfl rfl ?_
  refine g_aload X5 hx (D d33_90) rfl rfl ?_
  refine g_S X5 hx hZ hown (lk6 hw) (rm_keyOf_44 hw a7 a8 a9 a4 h0 n0 Z0 O_a7) e5 (D d33_92) hml.symm rfl rfl (Nat.le_refl _) (by decide) (fun v6 T6 L6 X6 q6 => ?_)
  obtain ⟨rfl, M6, e6⟩ := q6
  have N6 := Fr.app N0 M6
  refine g_astore X6 hx #[vr a1, vr a2, vr a3, vn, vi 0, vr a4, vr a5, vn, vr a7, vn, vr a8, vu, vu, vu, vu] (D d33_95) rfl rfl ?_
  refine g_aload X6 hx (D d33_97) rfl rfl ?_
  refine g_S X6 hx hZ hown (lk6 hw) (rm_keyOf_12 hw  h0 n0 Z0 ) e6 (D d33_99) hml.symm rfl rfl (Nat.le_refl _) (by decide) (fun v7 T7 L7 X7 q7 => ?_)
  obtain ⟨rfl, M7, e7⟩ := q7
  have N7 := Fr.app N6 M7
  refine g_astore X7 hx #[vr a1, vr a2, vr a3, vn, vi 0, vr a4, vr a5, vn, vr a7, vn, vr a8, vn, vu, vu, vu] (D d33_102) rfl rfl ?_
  refine g_aloadN X7 hx (D d33_104) rfl rfl ?_
  refine g_aloadN X7 hx (D d33_105) rfl rfl ?_
  refine g_aload X7 hx (D d33_106) rfl rfl ?_
  refine g_V X7 hx hZ hown (lk10 hw) (rm_compare_45 hw a1 a2 a5 a4 i1 i2 i3 h0 n0 Z0 O_a1 O_a2 O_a5 hk0) e7 O_a1.1 (D d33_108) hml.symm rfl rfl (Nat.le_refl _) (by decide) (fun v8 T8 L8 X8 q8 => ?_)
  obtain ⟨rfl, M8, e8⟩ := q8
  have N8 := Fr.app N7 M8
  refine g_istore X8 hx #[vr a1, vr a2, vr a3, vn, vi 0, vr a4, vr a5, vn, vr a7, vn, vr a8, vn, vi (-1), vu, vu] (D d33_111) rfl ?_
  refine g_iload X8 hx (D d33_113) rfl ?_
  refine g_ifYes X8 hx 137 (D d33_115) ((if0 _ _).trans (feq ((by decide) : ¬ ((-1 : Int32) = (0 : Int32)))).2) (by decide) (by decide) ?_
  refine g_aload X8 hx (D d33_137) rfl rfl ?_
  refine g_astoreN X8 hx #[vr a1, vr a2, vr a3, vr a4, vi 0, vr a4, vr a5, vn, vr a7, vn, vr a8, vn, vi (-1), vu, vu] (D d33_139) rfl rfl ?_
  refine g_iload X8 hx (D d33_140) rfl ?_
  refine g_istore X8 hx #[vr a1, vr a2, vr a3, vr a4, vi (-1), vr a4, vr a5, vn, vr a7, vn, vr a8, vn, vi (-1), vu, vu] (D d33_142) rfl ?_
  refine g_iload X8 hx (D d33_144) rfl ?_
  refine g_ifNo X8 hx (D d33_146) ((if0 _ _).trans (tlt ((by decide) : (-1 : Int32) < (0 : Int32))).2.1) ?_
  refine g_aload X8 hx (D d33_149) rfl rfl ?_
  refine g_iconst X8 hx (1 : Int32) (D d33_151) (by decide) ?_
  refine g_S X8 hx hZ hown (lk11 hw) (rm_addToLeftCount_46 hw a4 a5 a6 a7 h0 n0 Z0 O_a4 g_a4) e8 (D d33_152) hml.symm rfl rfl (Nat.le_refl _) (by decide) (fun v9 T9 L9 X9 q9 => ?_)
  obtain ⟨rfl, M9, Kc9, Rk9_0⟩ := q9
  have N9 := Fr.app N8 M9
  have O_a1_9 := R_MP_keep O_a1 Kc9 (own_nin ne_a1_a4 nl)
  have O_a2_9 := R_IN_keep O_a2 Kc9 (own_nin ne_a2_a4 nl)
  have O_a7_9 := R_ND_keep O_a7 Kc9 (own_nin ne_a4_a7.symm nl)
  have O_a8_9 := R_IN_keep O_a8 Kc9 (own_nin ne_a4_a8.symm nl)
  have K9 := Keep.trans K0 Kc9 (own_memc (mw 1 rfl) own_memn)
  have Z9 : n0 ≤ T9.heap.size := Nat.le_trans Z0 Kc9.1
  refine g_iload X9 hx (D d33_155) rfl ?_
  refine g_ifNo X9 hx (D d33_157) ((if0 _ _).trans (tlt ((by decide) : (-1 : Int32) < (0 : Int32))).2.1) ?_
  refine g_aload X9 hx (D d33_160) rfl rfl ?_
  refine g_goto X9 hx 167 (D d33_162) (by decide) (by decide) ?_
  refine g_astore X9 hx #[vr a1, vr a2, vr a3, vr a4, vi (-1), vr a7, vr a5, vn, vr a7, vn, vr a8, vn, vi (-1), vu, vu] (D d33_167) rfl rfl ?_
  refine g_iload X9 hx (D d33_169) rfl ?_
  refine g_ifNo X9 hx (D d33_171) ((if0 _ _).trans (tlt ((by decide) : (-1 : Int32) < (0 : Int32))).2.1) ?_
  refine g_aload X9 hx (D d33_174) rfl rfl ?_
  refine g_goto X9 hx 181 (D d33_176) (by decide) (by decide) ?_
  refine g_astore X9 hx #[vr a1, vr a2, vr a3, vr a4, vi (-1), vr a7, vr a8, vn, vr a7, vn, vr a8, vn, vi (-1), vu, vu] (D d33_181) rfl rfl ?_
  refine g_goto X9 hx 71 (D d33_183) (by decide) (by decide) ?_
  refine g_aload X9 hx (D d33_71) rfl rfl ?_
  refine g_nullNo X9 hx (D d33_73) ?_
  refine g_aload X9 hx (D d33_76) rfl rfl ?_
  refine g_getF X9 hx hZ hown (Wd101 hw) (rfl : T9.heap = T9.heap) O_a7_9.2.2.2.1 (D d33_78) (fun T10 X10 e10 => ?_)
  refine g_astore X10 hx #[vr a1, vr a2, vr a3, vr a4, vi (-1), vr a7, vr a8, vn, vn, vn, vr a8, vn, vi (-1), vu, vu] (D d33_81) rfl rfl ?_
  refine g_aload X10 hx (D d33_83) rfl rfl ?_
  refine g_getF X10 hx hZ hown (Wd103 hw) e10 O_a7_9.2.2.2.2.1 (D d33_85) (fun T11 X11 e11 => ?_)
  refine g_astore X11 hx #[vr a1, vr a2, vr a3, vr a4, vi (-1), vr a7, vr a8, vn, vn, vn, vr a8, vn, vi (-1), vu, vu] (D d33_88) rfl rfl ?_
  refine g_aload X11 hx (D d33_90) rfl rfl ?_
  refine g_S X11 hx hZ hown (lk6 hw) (rm_keyOf_12 hw  T9.heap n0 Z9 ) e11 (D d33_92) hml.symm rfl rfl (Nat.le_refl _) (by decide) (fun v12 T12 L12 X12 q12 => ?_)
  obtain ⟨rfl, M12, e12⟩ := q12
  have N12 := Fr.app N9 M12
  refine g_astore X12 hx #[vr a1, vr a2, vr a3, vr a4, vi (-1), vr a7, vr a8, vn, vn, vn, vn, vn, vi (-1), vu, vu] (D d33_95) rfl rfl ?_
  refine g_aload X12 hx (D d33_97) rfl rfl ?_
  refine g_S X12 hx hZ hown (lk6 hw) (rm_keyOf_12 hw  T9.heap n0 Z9 ) e12 (D d33_99) hml.symm rfl rfl (Nat.le_refl _) (by decide) (fun v13 T13 L13 X13 q13 => ?_)
  obtain ⟨rfl, M13, e13⟩ := q13
  have N13 := Fr.app N12 M13
  refine g_astore X13 hx #[vr a1, vr a2, vr a3, vr a4, vi (-1), vr a7, vr a8, vn, vn, vn, vn, vn, vi (-1), vu, vu] (D d33_102) rfl rfl ?_
  refine g_aloadN X13 hx (D d33_104) rfl rfl ?_
  refine g_aloadN X13 hx (D d33_105) rfl rfl ?_
  refine g_aload X13 hx (D d33_106) rfl rfl ?_
  refine g_V X13 hx hZ hown (lk10 hw) (rm_compare_70 hw a1 a2 a8 a4 i1 i2 i4 T9.heap n0 Z9 O_a1_9 O_a2_9 O_a8_9 hk1 hk2) e13 O_a1_9.1 (D d33_108) hml.symm rfl rfl (Nat.le_refl _) (by decide) (fun v14 T14 L14 X14 q14 => ?_)
  obtain ⟨rfl, M14, e14⟩ := q14
  have N14 := Fr.app N13 M14
  refine g_istore X14 hx #[vr a1, vr a2, vr a3, vr a4, vi (-1), vr a7, vr a8, vn, vn, vn, vn, vn, vi 1, vu, vu] (D d33_111) rfl ?_
  refine g_iload X14 hx (D d33_113) rfl ?_
  refine g_ifYes X14 hx 137 (D d33_115) ((if0 _ _).trans (feq ((by decide) : ¬ ((1 : Int32) = (0 : Int32)))).2) (by decide) (by decide) ?_
  refine g_aload X14 hx (D d33_137) rfl rfl ?_
  refine g_astoreN X14 hx #[vr a1, vr a2, vr a3, vr a7, vi (-1), vr a7, vr a8, vn, vn, vn, vn, vn, vi 1, vu, vu] (D d33_139) rfl rfl ?_
  refine g_iload X14 hx (D d33_140) rfl ?_
  refine g_istore X14 hx #[vr a1, vr a2, vr a3, vr a7, vi 1, vr a7, vr a8, vn, vn, vn, vn, vn, vi 1, vu, vu] (D d33_142) rfl ?_
  refine g_iload X14 hx (D d33_144) rfl ?_
  refine g_ifYes X14 hx 155 (D d33_146) ((if0 _ _).trans (flt ((by decide) : ¬ ((1 : Int32) < (0 : Int32)))).2.1) (by decide) (by decide) ?_
  refine g_iload X14 hx (D d33_155) rfl ?_
  refine g_ifYes X14 hx 165 (D d33_157) ((if0 _ _).trans (flt ((by decide) : ¬ ((1 : Int32) < (0 : Int32)))).2.1) (by decide) (by decide) ?_
  refine g_aload X14 hx (D d33_165) rfl rfl ?_
  refine g_astore X14 hx #[vr a1, vr a2, vr a3, vr a7, vi 1, vn, vr a8, vn, vn, vn, vn, vn, vi 1, vu, vu] (D d33_167) rfl rfl ?_
  refine g_iload X14 hx (D d33_169) rfl ?_
  refine g_ifYes X14 hx 179 (D d33_171) ((if0 _ _).trans (flt ((by decide) : ¬ ((1 : Int32) < (0 : Int32)))).2.1) (by decide) (by decide) ?_
  refine g_aload X14 hx (D d33_179) rfl rfl ?_
  refine g_astore X14 hx #[vr a1, vr a2, vr a3, vr a7, vi 1, vn, vn, vn, vn, vn, vn, vn, vi 1, vu, vu] (D d33_181) rfl rfl ?_
  refine g_goto X14 hx 71 (D d33_183) (by decide) (by decide) ?_
  refine g_aload X14 hx (D d33_71) rfl rfl ?_
  refine g_nullYes X14 hx 186 (D d33_73) (by decide) (by decide) ?_
  refine g_aloadN X14 hx (D d33_186) rfl rfl ?_
  refine g_aloadN X14 hx (D d33_187) rfl rfl ?_
  refine g_aloadN X14 hx (D d33_188) rfl rfl ?_
  refine g_aloadN X14 hx (D d33_189) rfl rfl ?_
  refine g_V X14 hx hZ hown (lk13 hw) (rm_newNode_18 hw a1 a2 a3 a7 T9.heap n0 Z9 ) e14 O_a1_9.1 (D d33_190) hml.symm rfl rfl (Nat.le_refl _) (by decide) (fun v15 T15 L15 X15 q15 => ?_)
  obtain ⟨b15_0, rfl, M15, Kc15, zb15_0, Rk15_0⟩ := q15
  have N15 := Fr.app N14 M15
  have ne_a1_b15_0 : a1 ≠ b15_0 := Nat.ne_of_lt (Nat.lt_of_lt_of_le O_a1_9.1.lt zb15_0)
  have ne_a7_b15_0 : a7 ≠ b15_0 := Nat.ne_of_lt (Nat.lt_of_lt_of_le O_a7_9.1.lt zb15_0)
  have ne_a4_b15_0 : a4 ≠ b15_0 := Nat.ne_of_lt (Nat.lt_of_lt_of_le Rk9_0.1.lt zb15_0)
  have g_b15_0 : n0 ≤ b15_0 := Nat.le_trans Z9 zb15_0
  have sz_b15_0 : h0.size ≤ b15_0 := Nat.le_trans K9.1 zb15_0
  have O_a1_15 := R_MP_keep O_a1_9 Kc15 nl
  have O_a7_15 := R_ND_keep O_a7_9 Kc15 nl
  have O_a4_15 := R_ND_keep Rk9_0 Kc15 nl
  have K15 := Keep.trans K9 Kc15 own_memn
  have Z15 : n0 ≤ T15.heap.size := Nat.le_trans Z9 Kc15.1
  refine g_astore X15 hx #[vr a1, vr a2, vr a3, vr a7, vi 1, vn, vn, vr b15_0, vn, vn, vn, vn, vi 1, vu, vu] (D d33_193) rfl rfl ?_
  refine g_aload X15 hx (D d33_195) rfl rfl ?_
  refine g_nonnullYes X15 hx 227 (D d33_197) (by decide) (by decide) ?_
  refine g_iload X15 hx (D d33_227) rfl ?_
  refine g_ifYes X15 hx 241 (D d33_229) ((if0 _ _).trans (flt ((by decide) : ¬ ((1 : Int32) < (0 : Int32)))).2.1) (by decide) (by decide) ?_
  refine g_aloadN X15 hx (D d33_241) rfl rfl ?_
  refine g_aload X15 hx (D d33_242) rfl rfl ?_
  refine g_putF X15 hx hZ hown (Wd103 hw) (rfl : T15.heap = T15.heap) O_a7_15.2.2.2.2.1 O_a7_15.1 (Or.inl (Wd104 hw)) (Wd76 hw) fd_2 rfl rfl (D d33_244) (fun T16 h16 X16 e16 W16 => ?_)
  have N16 := Fr.snoc X16 N15 g_a7
  have O_a1_16 := R_MP_other W16 O_a1_15 ne_a1_a7
  have O_a7_16 := R_ND_set_right hw W16 O_a7_15
  have O_a4_16 := R_ND_other W16 O_a4_15 ne_a4_a7
  have O_b15_0_16 := R_ND_other W16 Rk15_0 ne_a7_b15_0.symm
  have Z16 : n0 ≤ h16.size := Nat.le_trans Z15 (Nat.le_of_eq W16.size.symm)
  have K16 := Keep.wr K15 W16 (mw 2 rfl)
  refine g_aloadN X16 hx (D d33_247) rfl rfl ?_
  refine g_dup X16 hx (D d33_248) rfl ?_
  refine g_getF X16 hx hZ hown (Wd96 hw) e16 O_a1_16.2.2.2.1 (D d33_249) (fun T17 X17 e17 => ?_)
  refine g_iconst X17 hx (1 : Int32) (D d33_252) (by decide) ?_
  refine g_iadd X17 hx (D d33_253) ?_
  show Go p e below (T17.setTop (mkF m 254 #[vr a1, vr a2, vr a3, vr a7, vi 1, vn, vn, vr b15_0, vn, vn, vn, vn, vi 1, vu, vu] [(.int ((2 : Int32) + (1 : Int32))), (.ref a1)])) _
  rw [show ((2 : Int32) + (1 : Int32)) = (3 : Int32) from by decide]
  refine g_putF X17 hx hZ hown (Wd96 hw) e17 O_a1_16.2.2.2.1 O_a1_16.1 (Or.inl (Wd97 hw)) (Wd2 hw) fd_0 rfl rfl (D d33_254) (fun T18 h18 X18 e18 W18 => ?_)
  have N18 := Fr.snoc X18 N16 g_a1
  have O_a1_18 := R_MP_set_size hw W18 O_a1_16
  have O_a7_18 := R_ND_other W18 O_a7_16 ne_a1_a7.symm
  have O_a4_18 := R_ND_other W18 O_a4_16 ne_a1_a4.symm
  have O_b15_0_18 := R_ND_other W18 O_b15_0_16 ne_a1_b15_0.symm
  have Z18 : n0 ≤ h18.size := Nat.le_trans Z16 (Nat.le_of_eq W18.size.symm)
  have K18 := Keep.wr K16 W18 (mw 0 rfl)
  refine g_aloadN X18 hx (D d33_257) rfl rfl ?_
  refine g_aloadN X18 hx (D d33_258) rfl rfl ?_
  refine g_V X18 hx hZ hown (lk14 hw) (rm_refreshToRoot_20 hw a1 a7 h18 n0 Z18 ) e18 O_a1_18.1 (D d33_259) hml.symm rfl rfl (Nat.le_refl _) (by decide) (fun v19 T19 L19 X19 q19 => ?_)
  obtain ⟨rfl, M19, e19⟩ := q19
  have N19 := Fr.app N18 M19
  refine g_aloadN X19 hx (D d33_262) rfl rfl ?_
  refine g_aload X19 hx (D d33_263) rfl rfl ?_
  refine g_P X19 hx hZ hown (lk17 hw) (rm_balanceAfterInsert_71 hw a1 b15_0 a4 i1 a2 a3 a7 a5 a6 i2 a8 a9 i3 i4 h18 n0 Z18 O_a1_18 O_b15_0_18 O_a4_18 O_a7_18 ne_a1_b15_0 ne_a1_a4 ne_a1_a7 ne_a4_b15_0.symm ne_a7_b15_0.symm ne_a4_a7 g_a1 g_b15_0 g_a4 g_a7 hk0 hk1 hk2) e19 O_a1_18.1 (D d33_265) hml.symm rfl rfl (Nat.le_refl _) (by decide) (fun v20 T20 L20 X20 q20 => ?_)
  obtain ⟨rfl, M20, Kc20, Rk20_0, Rk20_1, Rk20_2, Rk20_3⟩ := q20
  have N20 := Fr.app N19 M20
  have K20 := Keep.trans K18 Kc20 (own_memc (mw 0 rfl) (own_memc (Or.inr sz_b15_0) (own_memc (mw 1 rfl) (own_memc (mw 2 rfl) own_memn))))
  refine g_aloadN X20 hx (D d33_268) rfl rfl ?_
  refine g_dup X20 hx (D d33_269) rfl ?_
  refine g_getF X20 hx hZ hown (Wd98 hw) (rfl : T20.heap = T20.heap) Rk20_0.2.2.2.2 (D d33_270) (fun T21 X21 e21 => ?_)
  refine g_iconst X21 hx (1 : Int32) (D d33_273) (by decide) ?_
  refine g_iadd X21 hx (D d33_274) ?_
  refine g_putF X21 hx hZ hown (Wd98 hw) e21 Rk20_0.2.2.2.2 Rk20_0.1 (Or.inl (Wd99 hw)) (Wd2 hw) fd_0 rfl rfl (D d33_275) (fun T22 h22 X22 e22 W22 => ?_)
  have N22 := Fr.snoc X22 N20 g_a1
  have O_a1_22 := R_MP_set_modCount hw W22 Rk20_0
  have O_b15_0_22 := R_ND_other W22 Rk20_1 ne_a1_b15_0.symm
  have O_a4_22 := R_ND_other W22 Rk20_2 ne_a1_a4.symm
  have O_a7_22 := R_ND_other W22 Rk20_3 ne_a1_a7.symm
  have K22 := Keep.wr K20 W22 (mw 0 rfl)
  refine g_null X22 hx (D d33_278) ?_
  exact own_retA X22 hx hret hlk rfl rfl (D d33_279) (by decide) (by decide) (by rw [e22]; exact ⟨b15_0, rfl, N22, K22, sz_b15_0, O_a1_22, O_a4_22, O_a7_22, O_b15_0_22⟩)
theorem rm_put_68 (hw : HW a0 Z) (a1 a2 : Addr) (a3 a4 : Addr) (i1 i2 : Int32) (a5 a6 a7 : Addr) (i3 : Int32) (a8 a9 : Addr) (i4 : Int32) (h0 : Heap) (n0 : Nat) (Z0 : n0 ≤ h0.size) (O_a1 : R_MP Z h0 a1 .null (.ref a4) (.int 2) (.int i1)) (O_a2 : R_IN Z h0 a2 (.int i2)) (O_a4 : R_ND Z h0 a4 (.ref a5) (.ref a6) (.ref a7) .null .null (.int 1)) (O_a5 : R_IN Z h0 a5 (.int i3)) (O_a7 : R_ND Z h0 a7 (.ref a8) (.ref a9) .null .null (.ref a4) (.int (-2147483648))) (O_a8 : R_IN Z h0 a8 (.int i4)) (ne_a1_a4 : a1 ≠ a4) (ne_a1_a7 : a1 ≠ a7) (ne_a2_a4 : a2 ≠ a4) (ne_a4_a7 : a4 ≠ a7) (ne_a4_a8 : a4 ≠ a8) (g_a1 : n0 ≤ a1) (g_a4 : n0 ≤ a4) (g_a7 : n0 ≤ a7) (hk0 : i2 < i3) (hk1 : ¬ (i2 < i4)) (hk2 : ¬ (i2 = i4)) :
    Ctr l Y20 B19 4 (some F3_) [] (rmk 5 1 6 79) Z #[(.ref a1), (.ref a2), (.ref a3)] h0 (fun v h L => ∃ f1, v = some .null ∧ Fr n0 L ∧ Keep h0 h [a1, a4, a7] ∧ h0.size ≤ f1 ∧ R_MP Z h a1 .null (.ref f1) (.int 3) (.int (i1 + (1 : Int32))) ∧ R_ND Z h a4 (.ref a5) (.ref a6) .null .null (.ref f1) (.int (-2147483648)) ∧ R_ND Z h a7 (.ref a8) (.ref a9) .null .null (.ref f1) (.int (-2147483648)) ∧ R_ND Z h f1 (.ref a2) (.ref a3) (.ref a7) (.ref a4) .null (.int 1)) := by
  refine own_enter pn_2 (fun p e s m below meth c s₁ hx hby hml hown hnm hret hlk hZ X0 e0 => ?_)
  have N0 := Fr.nil n0
  have K0 := Keep.refl h0 [a1, a4, a7]
  rw [ef_7_RRR m _ _ _]
  refine g_aloadN X0 hx (hb hby d7_0) rfl rfl ?_
  refine g_aloadN X0 hx (hb hby d7_1) rfl rfl ?_
  refine g_aloadN X0 hx (hb hby d7_2) rfl rfl ?_
  refine g_PH X0 hx hZ hown (lk18 hw) (rm_addIfAbsent_69 hw a1 a2 a3 a4 i1 i2 a5 a6 a7 i3 a8 a9 i4 h0 n0 Z0 O_a1 O_a2 O_a4 O_a5 O_a7 O_a8 ne_a1_a4 ne_a1_a7 ne_a2_a4 ne_a4_a7 ne_a4_a8 g_a1 g_a4 g_a7 hk0 hk1 hk2) e0 O_a1.1 (hb hby d7_3) hml.symm rfl rfl (Nat.le_refl _) (by decide) (fun v1 T1 L1 X1 q1 => ?_)
  obtain ⟨b1_0, rfl, M1, Kc1, zb1_0, Rk1_0, Rk1_1, Rk1_2, Rk1_3⟩ := q1
  have N1 := Fr.app N0 M1
  have sz_b1_0 : h0.size ≤ b1_0 := Nat.le_trans K0.1 zb1_0
  have K1 := Keep.trans K0 Kc1 (own_memc (mw 0 rfl) (own_memc (mw 1 rfl) (own_memc (mw 2 rfl) own_memn)))
  refine g_astoreN X1 hx #[vr a1, vr a2, vr a3, vn] (hb hby d7_6) rfl rfl ?_
  refine g_aloadN X1 hx (hb hby d7_7) rfl rfl ?_
  refine g_nonnullNo X1 hx (hb hby d7_8) ?_
  refine g_null X1 hx (hb hby d7_11) ?_
  refine g_goto X1 hx 21 (hb hby d7_12) (by decide) (by decide) ?_
  exact own_retA X1 hx hret hlk rfl rfl (hb hby d7_21) (by decide) (by decide) (by rw [(rfl : T1.heap = T1.heap)]; exact ⟨b1_0, rfl, N1, K1, sz_b1_0, Rk1_0, Rk1_1, Rk1_2, Rk1_3⟩)
theorem rm_addIfAbsent_80 (hw : HW a0 Z) (a1 a2 : Addr) (a3 a4 : Addr) (i1 i2 : Int32) (a5 a6 a7 : Addr) (i3 : Int32) (a8 a9 : Addr) (h0 : Heap) (n0 : Nat) (Z0 : n0 ≤ h0.size) (O_a1 : R_MP Z h0 a1 .null (.ref a4) (.int 2) (.int i1)) (O_a2 : R_IN Z h0 a2 (.int i2)) (O_a4 : R_ND Z h0 a4 (.ref a5) (.ref a6) (.ref a7) .null .null (.int 1)) (O_a5 : R_IN Z h0 a5 (.int i3)) (O_a7 : R_ND Z h0 a7 (.ref a8) (.ref a9) .null .null (.ref a4) (.int (-2147483648))) (hk0 : ¬ (i2 < i3)) (hk1 : i2 = i3) :
    CtrH l Y19 B18 15 (some F1_) [(71, 122, 210, 0), (137, 195, 210, 0), (210, 212, 210, 0)] (rmk 4 0 0 53) Z #[(.ref a1), (.ref a2), (.ref a3)] h0 (fun v h L => v = some (.ref a4) ∧ Fr n0 L ∧ h = h0) := by
  refine own_enterH pn_2 (fun p e s m below meth c s₁ hx hby hml hown hnm hret hlk hZ X0 e0 => ?_)
  have D {q : Nat} {r} (z : decode B18 q = r) : decode c.code q = r := hb hby z
  have N0 := Fr.nil n0
  have K0 := Keep.refl h0 []
  rw [ef_33_RRR m _ _ _]
  refine g_aloadN X0 hx (D d33_0) rfl rfl ?_
  refine g_getF X0 hx hZ hown (Wd25 hw) e0 O_a1.2.2.1 (D d33_1) (fun T1 X1 e1 => ?_)
  refine g_nonnullYes X1 hx 50 (D d33_4) (by decide) (by decide) ?_
  refine g_null X1 hx (D d33_50) ?_
  refine g_astoreN X1 hx #[vr a1, vr a2, vr a3, vn, vu, vu, vu, vu, vu, vu, vu, vu, vu, vu, vu] (D d33_51) rfl rfl ?_
  refine g_iconst X1 hx (0 : Int32) (D d33_52) (by decide) ?_
  refine g_istore X1 hx #[vr a1, vr a2, vr a3, vn, vi 0, vu, vu, vu, vu, vu, vu, vu, vu, vu, vu] (D d33_53) rfl ?_
  refine g_aloadN X1 hx (D d33_55) rfl rfl ?_
  refine g_getF X1 hx hZ hown (Wd25 hw) e1 O_a1.2.2.1 (D d33_56) (fun T2 X2 e2 => ?_)
  refine g_astore X2 hx #[vr a1, vr a2, vr a3, vn, vi 0, vr a4, vu, vu, vu, vu, vu, vu, vu, vu, vu] (D d33_59) rfl rfl ?_
  refine g_aload X2 hx (D d33_61) rfl rfl ?_
  refine g_getF X2 hx hZ hown (Wd100 hw) e2 O_a4.2.1 (D d33_63) (fun T3 X3 e3 => ?_)
  refine g_astore X3 hx #[vr a1, vr a2, vr a3, vn, vi 0, vr a4, vr a5, vu, vu, vu, vu, vu, vu, vu, vu] (D d33_66) rfl rfl ?_
  refine g_null X3 hx (D d33_68) ?_
  refine g_astore X3 hx #[vr a1, vr a2, vr a3, vn, vi 0, vr a4, vr a5, vn, vu, vu, vu, vu, vu, vu, vu] (D d33_69) rfl rfl ?_
  refine g_aload X3 hx (D d33_71) rfl rfl ?_
  refine g_nullNo X3 hx (D d33_73) ?_
  refine g_aload X3 hx (D d33_76) rfl rfl ?_
  refine g_getF X3 hx hZ hown (Wd101 hw) e3 O_a4.2.2.2.1 (D d33_78) (fun T4 X4 e4 => ?_)
  refine g_astore X4 hx #[vr a1, vr a2, vr a3, vn, vi 0, vr a4, vr a5, vn, vr a7, vu, vu, vu, vu, vu, vu] (D d33_81) rfl rfl ?_
  refine g_aload X4 hx (D d33_83) rfl rfl ?_
  refine g_getF X4 hx hZ hown (Wd103 hw) e4 O_a4.2.2.2.2.1 (D d33_85) (fun T5 X5 e5 => ?_)
  refine g_astore X5 hx #[vr a1, vr a2, vr a3, vn, vi 0, vr a4, vr a5, vn, vr a7, vn, vu, vu, vu, vu, vu] (D d33_88) rfl rfl ?_
  refine g_aload X5 hx (D d33_90) rfl rfl ?_
  refine g_S X5 hx hZ hown (lk6 hw) (rm_keyOf_44 hw a7 a8 a9 a4 h0 n0 Z0 O_a7) e5 (D d33_92) hml.symm rfl rfl (Nat.le_refl _) (by decide) (fun v6 T6 L6 X6 q6 => ?_)
  obtain ⟨rfl, M6, e6⟩ := q6
  have N6 := Fr.app N0 M6
  refine g_astore X6 hx #[vr a1, vr a2, vr a3, vn, vi 0, vr a4, vr a5, vn, vr a7, vn, vr a8, vu, vu, vu, vu] (D d33_95) rfl rfl ?_
  refine g_aload X6 hx (D d33_97) rfl rfl ?_
  refine g_S X6 hx hZ hown (lk6 hw) (rm_keyOf_12 hw  h0 n0 Z0 ) e6 (D d33_99) hml.symm rfl rfl (Nat.le_refl _) (by decide) (fun v7 T7 L7 X7 q7 => ?_)
  obtain ⟨rfl, M7, e7⟩ := q7
  have N7 := Fr.app N6 M7
  refine g_astore X7 hx #[vr a1, vr a2, vr a3, vn, vi 0, vr a4, vr a5, vn, vr a7, vn, vr a8, vn, vu, vu, vu] (D d33_102) rfl rfl ?_
  refine g_aloadN X7 hx (D d33_104) rfl rfl ?_
  refine g_aloadN X7 hx (D d33_105) rfl rfl ?_
  refine g_aload X7 hx (D d33_106) rfl rfl ?_
  refine g_V X7 hx hZ hown (lk10 hw) (rm_compare_62 hw a1 a2 a5 a4 i1 i2 i3 h0 n0 Z0 O_a1 O_a2 O_a5 hk0 hk1) e7 O_a1.1 (D d33_108) hml.symm rfl rfl (Nat.le_refl _) (by decide) (fun v8 T8 L8 X8 q8 => ?_)
  obtain ⟨rfl, M8, e8⟩ := q8
  have N8 := Fr.app N7 M8
  refine g_istore X8 hx #[vr a1, vr a2, vr a3, vn, vi 0, vr a4, vr a5, vn, vr a7, vn, vr a8, vn, vi 0, vu, vu] (D d33_111) rfl ?_
  refine g_iload X8 hx (D d33_113) rfl ?_
  refine g_ifNo X8 hx (D d33_115) ((if0 _ _).trans (teq ((by decide) : (0 : Int32) = (0 : Int32))).2) ?_
  refine g_aload X8 hx (D d33_118) rfl rfl ?_
  refine g_astore X8 hx #[vr a1, vr a2, vr a3, vn, vi 0, vr a4, vr a5, vn, vr a7, vn, vr a8, vn, vi 0, vr a4, vu] (D d33_120) rfl rfl ?_
  refine g_aload X8 hx (D d33_122) rfl rfl ?_
  refine g_nonnullNo X8 hx (D d33_124) ?_
  refine g_aloadN X8 hx (D d33_127) rfl rfl ?_
  refine g_iload X8 hx (D d33_128) rfl ?_
  refine g_iconst X8 hx (-1 : Int32) (D d33_130) (by decide) ?_
  refine g_S X8 hx hZ hown (lk20 hw) (rm_countPlace_30 hw  h0 n0 Z0 ) e8 (D d33_131) hml.symm rfl rfl (Nat.le_refl _) (by decide) (fun v9 T9 L9 X9 q9 => ?_)
  obtain ⟨rfl, M9, e9⟩ := q9
  have N9 := Fr.app N8 M9
  refine g_aload X9 hx (D d33_134) rfl rfl ?_
  exact own_retA X9 hx hret hlk rfl rfl (D d33_136) (by decide) (by decide) ⟨rfl, N9, e9⟩
theorem rm_setValue_82 (hw : HW a0 Z) (a1 a2 : Addr) (a3 a4 a5 : Addr) (h0 : Heap) (n0 : Nat) (Z0 : n0 ≤ h0.size) (O_a1 : R_ND Z h0 a1 (.ref a3) (.ref a4) (.ref a5) .null .null (.int 1)) (g_a1 : n0 ≤ a1) :
    Ctr l Y22 B21 3 (some F3_) [] (rmk 0 0 0 0) Z #[(.ref a1), (.ref a2)] h0 (fun v h L => v = some (.ref a4) ∧ Fr n0 L ∧ Keep h0 h [a1] ∧ R_ND Z h a1 (.ref a3) (.ref a2) (.ref a5) .null .null (.int 1)) := by
  refine own_enter pn_3 (fun p e s m below meth c s₁ hx hby hml hown hnm hret hlk hZ X0 e0 => ?_)
  have N0 := Fr.nil n0
  have K0 := Keep.refl h0 [a1]
  rw [ef_31_RR m _ _]
  refine g_aloadN X0 hx (hb hby d31_0) rfl rfl ?_
  refine g_getF X0 hx hZ hown (Wd87 hw) e0 O_a1.2.2.1 (hb hby d31_1) (fun T1 X1 e1 => ?_)
  refine g_astoreN X1 hx #[vr a1, vr a2, vr a4] (hb hby d31_4) rfl rfl ?_
  refine g_aloadN X1 hx (hb hby d31_5) rfl rfl ?_
  refine g_aloadN X1 hx (hb hby d31_6) rfl rfl ?_
  refine g_putF X1 hx hZ hown (Wd87 hw) e1 O_a1.2.2.1 O_a1.1 (Or.inl (Wd88 hw)) (Wd76 hw) fd_1 rfl rfl (hb hby d31_7) (fun T2 h2 X2 e2 W2 => ?_)
  have N2 := Fr.snoc X2 N0 g_a1
  have O_a1_2 := R_ND_set_value hw W2 O_a1
  have K2 := Keep.wr K0 W2 (mw 0 rfl)
  refine g_aloadN X2 hx (hb hby d31_10) rfl rfl ?_
  exact own_retA X2 hx hret hlk rfl rfl (hb hby d31_11) (by decide) (by decide) (by rw [e2]; exact ⟨rfl, N2, K2, O_a1_2⟩)
theorem rm_replaceValue_81 (hw : HW a0 Z) (a1 a2 : Addr) (a3 a4 : Addr) (a5 a6 : Addr) (h0 : Heap) (n0 : Nat) (Z0 : n0 ≤ h0.size) (O_a2 : R_ND Z h0 a2 (.ref a4) (.ref a5) (.ref a6) .null .null (.int 1)) (g_a2 : n0 ≤ a2) :
    Ctr l Y23 B22 3 (some F3_) [] (rmk 1 0 0 14) Z #[(.ref a1), (.ref a2), (.ref a3)] h0 (fun v h L => v = some (.ref a5) ∧ Fr n0 L ∧ Keep h0 h [a2] ∧ R_ND Z h a2 (.ref a4) (.ref a3) (.ref a6) .null .null (.int 1)) := by
  refine own_enter pn_2 (fun p e s m below meth c s₁ hx hby hml hown hnm hret hlk hZ X0 e0 => ?_)
  have N0 := Fr.nil n0
  have K0 := Keep.refl h0 [a2]
  rw [ef_30_RRR m _ _ _]
  refine g_aloadN X0 hx (hb hby d30_0) rfl rfl ?_
  refine g_aloadN X0 hx (hb hby d30_1) rfl rfl ?_
  refine g_V X0 hx hZ hown (lk21 hw) (rm_setValue_82 hw a2 a3 a4 a5 a6 h0 n0 Z0 O_a2 g_a2) e0 O_a2.1 (hb hby d30_2) hml.symm rfl rfl (Nat.le_refl _) (by decide) (fun v1 T1 L1 X1 q1 => ?_)
  obtain ⟨rfl, M1, Kc1, Rk1_0⟩ := q1
  have N1 := Fr.app N0 M1
  have K1 := Keep.trans K0 Kc1 (own_memc (mw 0 rfl) own_memn)
  exact own_retA X1 hx hret hlk rfl rfl (hb hby d30_5) (by decide) (by decide) (by rw [(rfl : T1.heap = T1.heap)]; exact ⟨rfl, N1, K1, Rk1_0⟩)
theorem rm_put_79 (hw : HW a0 Z) (a1 a2 : Addr) (a3 a4 : Addr) (i1 i2 : Int32) (a5 a6 a7 : Addr) (i3 : Int32) (a8 a9 : Addr) (h0 : Heap) (n0 : Nat) (Z0 : n0 ≤ h0.size) (O_a1 : R_MP Z h0 a1 .null (.ref a4) (.int 2) (.int i1)) (O_a2 : R_IN Z h0 a2 (.int i2)) (O_a4 : R_ND Z h0 a4 (.ref a5) (.ref a6) (.ref a7) .null .null (.int 1)) (O_a5 : R_IN Z h0 a5 (.int i3)) (O_a7 : R_ND Z h0 a7 (.ref a8) (.ref a9) .null .null (.ref a4) (.int (-2147483648))) (g_a4 : n0 ≤ a4) (hk0 : ¬ (i2 < i3)) (hk1 : i2 = i3) :
    Ctr l Y20 B19 4 (some F3_) [] (rmk 5 0 0 79) Z #[(.ref a1), (.ref a2), (.ref a3)] h0 (fun v h L => v = some (.ref a6) ∧ Fr n0 L ∧ Keep h0 h [a4] ∧ R_ND Z h a4 (.ref a5) (.ref a3) (.ref a7) .null .null (.int 1)) := by
  refine own_enter pn_2 (fun p e s m below meth c s₁ hx hby hml hown hnm hret hlk hZ X0 e0 => ?_)
  have N0 := Fr.nil n0
  have K0 := Keep.refl h0 [a4]
  rw [ef_7_RRR m _ _ _]
  refine g_aloadN X0 hx (hb hby d7_0) rfl rfl ?_
  refine g_aloadN X0 hx (hb hby d7_1) rfl rfl ?_
  refine g_aloadN X0 hx (hb hby d7_2) rfl rfl ?_
  refine g_PH X0 hx hZ hown (lk18 hw) (rm_addIfAbsent_80 hw a1 a2 a3 a4 i1 i2 a5 a6 a7 i3 a8 a9 h0 n0 Z0 O_a1 O_a2 O_a4 O_a5 O_a7 hk0 hk1) e0 O_a1.1 (hb hby d7_3) hml.symm rfl rfl (Nat.le_refl _) (by decide) (fun v1 T1 L1 X1 q1 => ?_)
  obtain ⟨rfl, M1, e1⟩ := q1
  have N1 := Fr.app N0 M1
  refine g_astoreN X1 hx #[vr a1, vr a2, vr a3, vr a4] (hb hby d7_6) rfl rfl ?_
  refine g_aloadN X1 hx (hb hby d7_7) rfl rfl ?_
  refine g_nonnullYes X1 hx 15 (hb hby d7_8) (by decide) (by decide) ?_
  refine g_aloadN X1 hx (hb hby d7_15) rfl rfl ?_
  refine g_aloadN X1 hx (hb hby d7_16) rfl rfl ?_
  refine g_aloadN X1 hx (hb hby d7_17) rfl rfl ?_
  refine g_V X1 hx hZ hown (lk22 hw) (rm_replaceValue_81 hw a1 a4 a3 a5 a6 a7 h0 n0 Z0 O_a4 g_a4) e1 O_a1.1 (hb hby d7_18) hml.symm rfl rfl (Nat.le_refl _) (by decide) (fun v2 T2 L2 X2 q2 => ?_)
  obtain ⟨rfl, M2, Kc2, Rk2_0⟩ := q2
  have N2 := Fr.app N1 M2
  have K2 := Keep.trans K0 Kc2 (own_memc (mw 0 rfl) own_memn)
  exact own_retA X2 hx hret hlk rfl rfl (hb hby d7_21) (by decide) (by decide) (by rw [(rfl : T2.heap = T2.heap)]; exact ⟨rfl, N2, K2, Rk2_0⟩)
theorem rm_balanceAfterInsert_85 (hw : HW a0 Z) (a1 a2 a3 : Addr) (i1 : Int32) (a4 a5 : Addr) (a6 a7 a8 : Addr) (i2 i3 : Int32) (h0 : Heap) (n0 : Nat) (Z0 : n0 ≤ h0.size) (O_a1 : R_MP Z h0 a1 .null (.ref a3) (.int 3) (.int i1)) (O_a2 : R_ND Z h0 a2 (.ref a4) (.ref a5) .null .null (.ref a3) (.int (-2147483648))) (O_a3 : R_ND Z h0 a3 (.ref a6) (.ref a7) (.ref a8) (.ref a2) .null (.int 1)) (g_a3 : n0 ≤ a3) (hk0 : ¬ (i2 < i3)) (hk1 : ¬ (i2 = i3)) :
    Ctr l Y18 B17 6 none [] (rmk 1 0 0 13) Z #[(.ref a1), (.ref a2)] h0 (fun v h L => v = none ∧ Fr n0 L ∧ Keep h0 h [a3] ∧ R_ND Z h a3 (.ref a6) (.ref a7) (.ref a8) (.ref a2) .null (.int 1)) := by
  refine own_enter pn_2 (fun p e s m below meth c s₁ hx hby hml hown hnm hret hlk hZ X0 e0 => ?_)
  have N0 := Fr.nil n0
  have K0 := Keep.refl h0 [a3]
  rw [ef_17_RR m _ _]
  refine g_aloadN X0 hx (hb hby d17_0) rfl rfl ?_
  refine g_astoreN X0 hx #[vr a1, vr a2, vr a2, vu, vu, vu] (hb hby d17_1) rfl rfl ?_
  refine g_aloadN X0 hx (hb hby d17_2) rfl rfl ?_
  refine g_getF X0 hx hZ hown (Wd117 hw) e0 O_a2.2.2.2.2.2.1 (hb hby d17_3) (fun T1 X1 e1 => ?_)
  refine g_S X1 hx hZ hown (lk15 hw) (rm_isRed_58 hw a3 a6 a7 a8 a2 h0 n0 Z0 O_a3) e1 (hb hby d17_6) hml.symm rfl rfl (Nat.le_refl _) (by decide) (fun v2 T2 L2 X2 q2 => ?_)
  obtain ⟨rfl, M2, e2⟩ := q2
  have N2 := Fr.app N0 M2
  refine g_ifYes X2 hx 188 (hb hby d17_9) ((if0 _ _).trans (teq ((by decide) : (0 : Int32) = (0 : Int32))).1) (by decide) (by decide) ?_
  refine g_aloadN X2 hx (hb hby d17_188) rfl rfl ?_
  refine g_getF X2 hx hZ hown (Wd25 hw) e2 O_a1.2.2.1 (hb hby d17_189) (fun T3 X3 e3 => ?_)
  refine g_iconst X3 hx (0 : Int32) (hb hby d17_192) (by decide) ?_
  refine g_S X3 hx hZ hown (lk16 hw) (rm_setRed_59 hw a3 a6 a7 a8 a2 h0 n0 Z0 O_a3 g_a3) e3 (hb hby d17_193) hml.symm rfl rfl (Nat.le_refl _) (by decide) (fun v4 T4 L4 X4 q4 => ?_)
  obtain ⟨rfl, M4, Kc4, Rk4_0⟩ := q4
  have N4 := Fr.app N2 M4
  have K4 := Keep.trans K0 Kc4 (own_memc (mw 0 rfl) own_memn)
  exact own_retV X4 hx hret hlk (hb hby d17_196) (by decide) (by decide) (by rw [(rfl : T4.heap = T4.heap)]; exact ⟨rfl, N4, K4, Rk4_0⟩)
theorem rm_addIfAbsent_84 (hw : HW a0 Z) (a1 a2 : Addr) (a3 a4 : Addr) (i1 i2 : Int32) (a5 a6 a7 : Addr) (i3 : Int32) (a8 a9 : Addr) (h0 : Heap) (n0 : Nat) (Z0 : n0 ≤ h0.size) (O_a1 : R_MP Z h0 a1 .null (.ref a4) (.int 2) (.int i1)) (O_a2 : R_IN Z h0 a2 (.int i2)) (O_a4 : R_ND Z h0 a4 (.ref a5) (.ref a6) (.ref a7) .null .null (.int 1)) (O_a5 : R_IN Z h0 a5 (.int i3)) (O_a7 : R_ND Z h0 a7 (.ref a8) (.ref a9) .null .null (.ref a4) (.int (-2147483648))) (ne_a1_a4 : a1 ≠ a4) (g_a1 : n0 ≤ a1) (g_a4 : n0 ≤ a4) (hk0 : ¬ (i2 < i3)) (hk1 : ¬ (i2 = i3)) :
    CtrH l Y19 B18 15 (some F1_) [(71, 122, 210, 0), (137, 195, 210, 0), (210, 212, 210, 0)] (rmk 4 1 6 53) Z #[(.ref a1), (.ref a2), (.ref a3)] h0 (fun v h L => ∃ f1, v = some .null ∧ Fr n0 L ∧ Keep h0 h [a1, a4] ∧ h0.size ≤ f1 ∧ R_MP Z h a1 .null (.ref a4) (.int 3) (.int (i1 + (1 : Int32))) ∧ R_ND Z h a4 (.ref a5) (.ref a6) (.ref a7) (.ref f1) .null (.int 1) ∧ R_ND Z h f1 (.ref a2) (.ref a3) .null .null (.ref a4) (.int (-2147483648))) := by
  refine own_enterH pn_2 (fun p e s m below meth c s₁ hx hby hml hown hnm hret hlk hZ X0 e0 => ?_)
  have D {q : Nat} {r} (z : decode B18 q = r) : decode c.code q = r := hb hby z
  have N0 := Fr.nil n0
  have K0 := Keep.refl h0 [a1, a4]
  rw [ef_33_RRR m _ _ _]
  refine g_aloadN X0 hx (D d33_0) rfl rfl ?_
  refine g_getF X0 hx hZ hown (Wd25 hw) e0 O_a1.2.2.1 (D d33_1) (fun T1 X1 e1 => ?_)
  refine g_nonnullYes X1 hx 50 (D d33_4) (by decide) (by decide) ?_
  refine g_null X1 hx (D d33_50) ?_
  refine g_astoreN X1 hx #[vr a1, vr a2, vr a3, vn, vu, vu, vu, vu, vu, vu, vu, vu, vu, vu, vu] (D d33_51) rfl rfl ?_
  refine g_iconst X1 hx (0 : Int32) (D d33_52) (by decide) ?_
  refine g_istore X1 hx #[vr a1, vr a2, vr a3, vn, vi 0, vu, vu, vu, vu, vu, vu, vu, vu, vu, vu] (D d33_53) rfl ?_
  refine g_aloadN X1 hx (D d33_55) rfl rfl ?_
  refine g_getF X1 hx hZ hown (Wd25 hw) e1 O_a1.2.2.1 (D d33_56) (fun T2 X2 e2 => ?_)
  refine g_astore X2 hx #[vr a1, vr a2, vr a3, vn, vi 0, vr a4, vu, vu, vu, vu, vu, vu, vu, vu, vu] (D d33_59) rfl rfl ?_
  refine g_aload X2 hx (D d33_61) rfl rfl ?_
  refine g_getF X2 hx hZ hown (Wd100 hw) e2 O_a4.2.1 (D d33_63) (fun T3 X3 e3 => ?_)
  refine g_astore X3 hx #[vr a1, vr a2, vr a3, vn, vi 0, vr a4, vr a5, vu, vu, vu, vu, vu, vu, vu, vu] (D d33_66) rfl rfl ?_
  refine g_null X3 hx (D d33_68) ?_
  refine g_astore X3 hx #[vr a1, vr a2, vr a3, vn, vi 0, vr a4, vr a5, vn, vu, vu, vu, vu, vu, vu, vu] (D d33_69) rfl rfl ?_
  refine g_aload X3 hx (D d33_71) rfl rfl ?_
  refine g_nullNo X3 hx (D d33_73) ?_
  refine g_aload X3 hx (D d33_76) rfl rfl ?_
  refine g_getF X3 hx hZ hown (Wd101 hw) e3 O_a4.2.2.2.1 (D d33_78) (fun T4 X4 e4 => ?_)
  refine g_astore X4 hx #[vr a1, vr a2, vr a3, vn, vi 0, vr a4, vr a5, vn, vr a7, vu, vu, vu, vu, vu, vu] (D d33_81) rfl rfl ?_
  refine g_aload X4 hx (D d33_83) rfl rfl ?_
  refine g_getF X4 hx hZ hown (Wd103 hw) e4 O_a4.2.2.2.2.1 (D d33_85) (fun T5 X5 e5 => ?_)
  refine g_astore X5 hx #[vr a1, vr a2, vr a3, vn, vi 0, vr a4, vr a5, vn, vr a7, vn, vu, vu, vu, vu, vu] (D d33_88) rfl rfl ?_
  refine g_aload X5 hx (D d33_90) rfl rfl ?_
  refine g_S X5 hx hZ hown (lk6 hw) (rm_keyOf_44 hw a7 a8 a9 a4 h0 n0 Z0 O_a7) e5 (D d33_92) hml.symm rfl rfl (Nat.le_refl _) (by decide) (fun v6 T6 L6 X6 q6 => ?_)
  obtain ⟨rfl, M6, e6⟩ := q6
  have N6 := Fr.app N0 M6
  refine g_astore X6 hx #[vr a1, vr a2, vr a3, vn, vi 0, vr a4, vr a5, vn, vr a7, vn, vr a8, vu, vu, vu, vu] (D d33_95) rfl rfl ?_
  refine g_aload X6 hx (D d33_97) rfl rfl ?_
  refine g_S X6 hx hZ hown (lk6 hw) (rm_keyOf_12 hw  h0 n0 Z0 ) e6 (D d33_99) hml.symm rfl rfl (Nat.le_refl _) (by decide) (fun v7 T7 L7 X7 q7 => ?_)
  obtain ⟨rfl, M7, e7⟩ := q7
  have N7 := Fr.app N6 M7
  refine g_astore X7 hx #[vr a1, vr a2, vr a3, vn, vi 0, vr a4, vr a5, vn, vr a7, vn, vr a8, vn, vu, vu, vu] (D d33_102) rfl rfl ?_
  refine g_aloadN X7 hx (D d33_104) rfl rfl ?_
  refine g_aloadN X7 hx (D d33_105) rfl rfl ?_
  refine g_aload X7 hx (D d33_106) rfl rfl ?_
  refine g_V X7 hx hZ hown (lk10 hw) (rm_compare_70 hw a1 a2 a5 a4 i1 i2 i3 h0 n0 Z0 O_a1 O_a2 O_a5 hk0 hk1) e7 O_a1.1 (D d33_108) hml.symm rfl rfl (Nat.le_refl _) (by decide) (fun v8 T8 L8 X8 q8 => ?_)
  obtain ⟨rfl, M8, e8⟩ := q8
  have N8 := Fr.app N7 M8
  refine g_istore X8 hx #[vr a1, vr a2, vr a3, vn, vi 0, vr a4, vr a5, vn, vr a7, vn, vr a8, vn, vi 1, vu, vu] (D d33_111) rfl ?_
  refine g_iload X8 hx (D d33_113) rfl ?_
  refine g_ifYes X8 hx 137 (D d33_115) ((if0 _ _).trans (feq ((by decide) : ¬ ((1 : Int32) = (0 : Int32)))).2) (by decide) (by decide) ?_
  refine g_aload X8 hx (D d33_137) rfl rfl ?_
  refine g_astoreN X8 hx #[vr a1, vr a2, vr a3, vr a4, vi 0, vr a4, vr a5, vn, vr a7, vn, vr a8, vn, vi 1, vu, vu] (D d33_139) rfl rfl ?_
  refine g_iload X8 hx (D d33_140) rfl ?_
  refine g_istore X8 hx #[vr a1, vr a2, vr a3, vr a4, vi 1, vr a4, vr a5, vn, vr a7, vn, vr a8, vn, vi 1, vu, vu] (D d33_142) rfl ?_
  refine g_iload X8 hx (D d33_144) rfl ?_
  refine g_ifYes X8 hx 155 (D d33_146) ((if0 _ _).trans (flt ((by decide) : ¬ ((1 : Int32) < (0 : Int32)))).2.1) (by decide) (by decide) ?_
  refine g_iload X8 hx (D d33_155) rfl ?_
  refine g_ifYes X8 hx 165 (D d33_157) ((if0 _ _).trans (flt ((by decide) : ¬ ((1 : Int32) < (0 : Int32)))).2.1) (by decide) (by decide) ?_
  refine g_aload X8 hx (D d33_165) rfl rfl ?_
  refine g_astore X8 hx #[vr a1, vr a2, vr a3, vr a4, vi 1, vn, vr a5, vn, vr a7, vn, vr a8, vn, vi 1, vu, vu] (D d33_167) rfl rfl ?_
  refine g_iload X8 hx (D d33_169) rfl ?_
  refine g_ifYes X8 hx 179 (D d33_171) ((if0 _ _).trans (flt ((by decide) : ¬ ((1 : Int32) < (0 : Int32)))).2.1) (by decide) (by decide) ?_
  refine g_aload X8 hx (D d33_179) rfl rfl ?_
  refine g_astore X8 hx #[vr a1, vr a2, vr a3, vr a4, vi 1, vn, vn, vn, vr a7, vn, vr a8, vn, vi 1, vu, vu] (D d33_181) rfl rfl ?_
  refine g_goto X8 hx 71 (D d33_183) (by decide) (by decide) ?_
  refine g_aload X8 hx (D d33_71) rfl rfl ?_
  refine g_nullYes X8 hx 186 (D d33_73) (by decide) (by decide) ?_
  refine g_aloadN X8 hx (D d33_186) rfl rfl ?_
  refine g_aloadN X8 hx (D d33_187) rfl rfl ?_
  refine g_aloadN X8 hx (D d33_188) rfl rfl ?_
  refine g_aloadN X8 hx (D d33_189) rfl rfl ?_
  refine g_V X8 hx hZ hown (lk13 hw) (rm_newNode_18 hw a1 a2 a3 a4 h0 n0 Z0 ) e8 O_a1.1 (D d33_190) hml.symm rfl rfl (Nat.le_refl _) (by decide) (fun v9 T9 L9 X9 q9 => ?_)
  obtain ⟨b9_0, rfl, M9, Kc9, zb9_0, Rk9_0⟩ := q9
  have N9 := Fr.app N8 M9
  have ne_a1_b9_0 : a1 ≠ b9_0 := Nat.ne_of_lt (Nat.lt_of_lt_of_le O_a1.1.lt zb9_0)
  have ne_a4_b9_0 : a4 ≠ b9_0 := Nat.ne_of_lt (Nat.lt_of_lt_of_le O_a4.1.lt zb9_0)
  have sz_b9_0 : h0.size ≤ b9_0 := Nat.le_trans K0.1 zb9_0
  have O_a1_9 := R_MP_keep O_a1 Kc9 nl
  have O_a4_9 := R_ND_keep O_a4 Kc9 nl
  have K9 := Keep.trans K0 Kc9 own_memn
  have Z9 : n0 ≤ T9.heap.size := Nat.le_trans Z0 Kc9.1
  refine g_astore X9 hx #[vr a1, vr a2, vr a3, vr a4, vi 1, vn, vn, vr b9_0, vr a7, vn, vr a8, vn, vi 1, vu, vu] (D d33_193) rfl rfl ?_
  refine g_aload X9 hx (D d33_195) rfl rfl ?_
  refine g_nonnullYes X9 hx 227 (D d33_197) (by decide) (by decide) ?_
  refine g_iload X9 hx (D d33_227) rfl ?_
  refine g_ifYes X9 hx 241 (D d33_229) ((if0 _ _).trans (flt ((by decide) : ¬ ((1 : Int32) < (0 : Int32)))).2.1) (by decide) (by decide) ?_
  refine g_aloadN X9 hx (D d33_241) rfl rfl ?_
  refine g_aload X9 hx (D d33_242) rfl rfl ?_
  refine g_putF X9 hx hZ hown (Wd103 hw) (rfl : T9.heap = T9.heap) O_a4_9.2.2.2.2.1 O_a4_9.1 (Or.inl (Wd104 hw)) (Wd76 hw) fd_2 rfl rfl (D d33_244) (fun T10 h10 X10 e10 W10 => ?_)
  have N10 := Fr.snoc X10 N9 g_a4
  have O_a1_10 := R_MP_other W10 O_a1_9 ne_a1_a4
  have O_a4_10 := R_ND_set_right hw W10 O_a4_9
  have O_b9_0_10 := R_ND_other W10 Rk9_0 ne_a4_b9_0.symm
  have Z10 : n0 ≤ h10.size := Nat.le_trans Z9 (Nat.le_of_eq W10.size.symm)
  have K10 := Keep.wr K9 W10 (mw 1 rfl)
  refine g_aloadN X10 hx (D d33_247) rfl rfl ?_
  refine g_dup X10 hx (D d33_248) rfl ?_
  refine g_getF X10 hx hZ hown (Wd96 hw) e10 O_a1_10.2.2.2.1 (D d33_249) (fun T11 X11 e11 => ?_)
  refine g_iconst X11 hx (1 : Int32) (D d33_252) (by decide) ?_
  refine g_iadd X11 hx (D d33_253) ?_
  show Go p e below (T11.setTop (mkF m 254 #[vr a1, vr a2, vr a3, vr a4, vi 1, vn, vn, vr b9_0, vr a7, vn, vr a8, vn, vi 1, vu, vu] [(.int ((2 : Int32) + (1 : Int32))), (.ref a1)])) _
  rw [show ((2 : Int32) + (1 : Int32)) = (3 : Int32) from by decide]
  refine g_putF X11 hx hZ hown (Wd96 hw) e11 O_a1_10.2.2.2.1 O_a1_10.1 (Or.inl (Wd97 hw)) (Wd2 hw) fd_0 rfl rfl (D d33_254) (fun T12 h12 X12 e12 W12 => ?_)
  have N12 := Fr.snoc X12 N10 g_a1
  have O_a1_12 := R_MP_set_size hw W12 O_a1_10
  have O_a4_12 := R_ND_other W12 O_a4_10 ne_a1_a4.symm
  have O_b9_0_12 := R_ND_other W12 O_b9_0_10 ne_a1_b9_0.symm
  have Z12 : n0 ≤ h12.size := Nat.le_trans Z10 (Nat.le_of_eq W12.size.symm)
  have K12 := Keep.wr K10 W12 (mw 0 rfl)
  refine g_aloadN X12 hx (D d33_257) rfl rfl ?_
  refine g_aloadN X12 hx (D d33_258) rfl rfl ?_
  refine g_V X12 hx hZ hown (lk14 hw) (rm_refreshToRoot_20 hw a1 a4 h12 n0 Z12 ) e12 O_a1_12.1 (D d33_259) hml.symm rfl rfl (Nat.le_refl _) (by decide) (fun v13 T13 L13 X13 q13 => ?_)
  obtain ⟨rfl, M13, e13⟩ := q13
  have N13 := Fr.app N12 M13
  refine g_aloadN X13 hx (D d33_262) rfl rfl ?_
  refine g_aload X13 hx (D d33_263) rfl rfl ?_
  refine g_P X13 hx hZ hown (lk17 hw) (rm_balanceAfterInsert_85 hw a1 b9_0 a4 i1 a2 a3 a5 a6 a7 i2 i3 h12 n0 Z12 O_a1_12 O_b9_0_12 O_a4_12 g_a4 hk0 hk1) e13 O_a1_12.1 (D d33_265) hml.symm rfl rfl (Nat.le_refl _) (by decide) (fun v14 T14 L14 X14 q14 => ?_)
  obtain ⟨rfl, M14, Kc14, Rk14_0⟩ := q14
  have N14 := Fr.app N13 M14
  have O_a1_14 := R_MP_keep O_a1_12 Kc14 (own_nin ne_a1_a4 nl)
  have O_b9_0_14 := R_ND_keep O_b9_0_12 Kc14 (own_nin ne_a4_b9_0.symm nl)
  have K14 := Keep.trans K12 Kc14 (own_memc (mw 1 rfl) own_memn)
  refine g_aloadN X14 hx (D d33_268) rfl rfl ?_
  refine g_dup X14 hx (D d33_269) rfl ?_
  refine g_getF X14 hx hZ hown (Wd98 hw) (rfl : T14.heap = T14.heap) O_a1_14.2.2.2.2 (D d33_270) (fun T15 X15 e15 => ?_)
  refine g_iconst X15 hx (1 : Int32) (D d33_273) (by decide) ?_
  refine g_iadd X15 hx (D d33_274) ?_
  refine g_putF X15 hx hZ hown (Wd98 hw) e15 O_a1_14.2.2.2.2 O_a1_14.1 (Or.inl (Wd99 hw)) (Wd2 hw) fd_0 rfl rfl (D d33_275) (fun T16 h16 X16 e16 W16 => ?_)
  have N16 := Fr.snoc X16 N14 g_a1
  have O_a1_16 := R_MP_set_modCount hw W16 O_a1_14
  have O_b9_0_16 := R_ND_other W16 O_b9_0_14 ne_a1_b9_0.symm
  have O_a4_16 := R_ND_other W16 Rk14_0 ne_a1_a4.symm
  have K16 := Keep.wr K14 W16 (mw 0 rfl)
  refine g_null X16 hx (D d33_278) ?_
  exact own_retA X16 hx hret hlk rfl rfl (D d33_279) (by decide) (by decide) (by rw [e16]; exact ⟨b9_0, rfl, N16, K16, sz_b9_0, O_a1_16, O_a4_16, O_b9_0_16⟩)
theorem rm_put_83 (hw : HW a0 Z) (a1 a2 : Addr) (a3 a4 : Addr) (i1 i2 : Int32) (a5 a6 a7 : Addr) (i3 : Int32) (a8 a9 : Addr) (h0 : Heap) (n0 : Nat) (Z0 : n0 ≤ h0.size) (O_a1 : R_MP Z h0 a1 .null (.ref a4) (.int 2) (.int i1)) (O_a2 : R_IN Z h0 a2 (.int i2)) (O_a4 : R_ND Z h0 a4 (.ref a5) (.ref a6) (.ref a7) .null .null (.int 1)) (O_a5 : R_IN Z h0 a5 (.int i3)) (O_a7 : R_ND Z h0 a7 (.ref a8) (.ref a9) .null .null (.ref a4) (.int (-2147483648))) (ne_a1_a4 : a1 ≠ a4) (g_a1 : n0 ≤ a1) (g_a4 : n0 ≤ a4) (hk0 : ¬ (i2 < i3)) (hk1 : ¬ (i2 = i3)) :
    Ctr l Y20 B19 4 (some F3_) [] (rmk 5 1 6 79) Z #[(.ref a1), (.ref a2), (.ref a3)] h0 (fun v h L => ∃ f1, v = some .null ∧ Fr n0 L ∧ Keep h0 h [a1, a4] ∧ h0.size ≤ f1 ∧ R_MP Z h a1 .null (.ref a4) (.int 3) (.int (i1 + (1 : Int32))) ∧ R_ND Z h a4 (.ref a5) (.ref a6) (.ref a7) (.ref f1) .null (.int 1) ∧ R_ND Z h f1 (.ref a2) (.ref a3) .null .null (.ref a4) (.int (-2147483648))) := by
  refine own_enter pn_2 (fun p e s m below meth c s₁ hx hby hml hown hnm hret hlk hZ X0 e0 => ?_)
  have N0 := Fr.nil n0
  have K0 := Keep.refl h0 [a1, a4]
  rw [ef_7_RRR m _ _ _]
  refine g_aloadN X0 hx (hb hby d7_0) rfl rfl ?_
  refine g_aloadN X0 hx (hb hby d7_1) rfl rfl ?_
  refine g_aloadN X0 hx (hb hby d7_2) rfl rfl ?_
  refine g_PH X0 hx hZ hown (lk18 hw) (rm_addIfAbsent_84 hw a1 a2 a3 a4 i1 i2 a5 a6 a7 i3 a8 a9 h0 n0 Z0 O_a1 O_a2 O_a4 O_a5 O_a7 ne_a1_a4 g_a1 g_a4 hk0 hk1) e0 O_a1.1 (hb hby d7_3) hml.symm rfl rfl (Nat.le_refl _) (by decide) (fun v1 T1 L1 X1 q1 => ?_)
  obtain ⟨b1_0, rfl, M1, Kc1, zb1_0, Rk1_0, Rk1_1, Rk1_2⟩ := q1
  have N1 := Fr.app N0 M1
  have sz_b1_0 : h0.size ≤ b1_0 := Nat.le_trans K0.1 zb1_0
  have K1 := Keep.trans K0 Kc1 (own_memc (mw 0 rfl) (own_memc (mw 1 rfl) own_memn))
  refine g_astoreN X1 hx #[vr a1, vr a2, vr a3, vn] (hb hby d7_6) rfl rfl ?_
  refine g_aloadN X1 hx (hb hby d7_7) rfl rfl ?_
  refine g_nonnullNo X1 hx (hb hby d7_8) ?_
  refine g_null X1 hx (hb hby d7_11) ?_
  refine g_goto X1 hx 21 (hb hby d7_12) (by decide) (by decide) ?_
  exact own_retA X1 hx hret hlk rfl rfl (hb hby d7_21) (by decide) (by decide) (by rw [(rfl : T1.heap = T1.heap)]; exact ⟨b1_0, rfl, N1, K1, sz_b1_0, Rk1_0, Rk1_1, Rk1_2⟩)
theorem seg_77_2L (hw : HW a0 Z) (wc : Addr) (clc : Cell) (p1 p2 : Int32) (p3 p4 : Int32) (p5 n : Int32) (M : Addr) (mc : Int32) (r t : Addr) (kx vx : Addr) (x : Int32) (km vm : Addr) (ma va : Int32) (m2 v2 : Int32) (h0 : Heap) (n0 : Nat) (Z0 : n0 ≤ h0.size) (hN : Z.heap.size ≤ n0) (C1 : Sta Z Z.heap "java/lang/Integer$IntegerCache" "high" "I" (.int 127)) (C2 : Sta Z Z.heap "java/lang/Integer$IntegerCache" "cache" "[Ljava/lang/Integer;" (.ref wc)) (BX : Bxs Z wc clc "java/lang/Integer" "I" (256 : Int32) (fun j => .int (j - (128 : Int32)))) (KO : Keep Z.heap h0 []) (O_M : R_MP Z h0 M .null (.ref r) (.int 2) (.int mc)) (O_r : R_ND Z h0 r (.ref kx) (.ref vx) (.ref t) .null .null (.int 1)) (O_t : R_ND Z h0 t (.ref km) (.ref vm) .null .null (.ref r) (.int (-2147483648))) (O_kx : R_IN Z h0 kx (.int x)) (O_km : R_IN Z h0 km (.int ma)) (O_vm : R_IN Z h0 vm (.int va)) (ne_M_r : M ≠ r) (ne_M_t : M ≠ t) (ne_M_kx : M ≠ kx) (ne_M_km : M ≠ km) (ne_M_vm : M ≠ vm) (ne_r_t : r ≠ t) (ne_r_kx : r ≠ kx) (ne_r_km : r ≠ km) (ne_r_vm : r ≠ vm) (ne_t_kx : t ≠ kx) (ne_t_km : t ≠ km) (ne_t_vm : t ≠ vm) (g_M : n0 ≤ M) (g_r : n0 ≤ r) (g_t : n0 ≤ t) (hn : ¬ n = (0 : Int32)) (ho : ma < x) (Tb : own_T n (2 : Int32) p3 p2 (0 : Int32) (1 : Int32) m2 v2) (Tc : own_T n (3 : Int32) p4 m2 v2 (2 : Int32) ma va) {p : Program} {e : Env} {s : State} {m : MethodId} {below : List Frame} {meth : Method} {c : Code} {args : Array Value} {s₁ : State} {lo : List Loc} (hx : p.tables.exec = Jvm.exec) (hby : c.code = code) (hml : c.maxLocals = maxLocals) (hown : s.vm.findClass "com/example/rosewood/rosewood/RosewoodMapFirstPinLaw" = some m.cls) (hnm : meth.name = "law") (hret : meth.sig.returnType = ret) (hlk : meth.locks = false) (hZ : Z.Warmed39 s.vm) (X0 : Stand p l e room_1 s m args below meth c s₁ lo 10 31) (e0 : s₁.heap = h0) (N0 : Fr n0 lo) :
    Go p e below (s₁.setTop (mkF m 77 #[vi p1, vi p2, vi p3, vi p4, vi p5, vi n, vr M, vu, vu, vu] [])) (FinE s room_1.cells room_1.slots (fun v h L => v = some (.int 1) ∧ Fr n0 L)) := by
  refine g_iload X0 hx (hb hby at_77) rfl ?_
  refine g_iconst X0 hx (4 : Int32) (hb hby at_79) (by decide) ?_
  by_cases c80_1 : n < (4 : Int32)
  · refine g_icmpYes X0 hx 98 (hb hby at_80) (tlt c80_1).1 (by decide) (by decide) ?_
    exact seg_98_D2 hw p1 p2 p3 p4 p5 n M mc (2 : Int32) r .null (1 : Int32) kx vx t .null (-2147483648 : Int32) km vm ma va m2 v2 ma va h0 n0 Z0 O_M O_r O_t O_km O_vm ne_M_r ne_M_t ne_M_km ne_M_vm ne_r_t ne_r_km ne_r_vm ne_t_km ne_t_vm g_M g_r g_t hn Tb Tc (by have u0 : ¬ (n = (0 : Int32)) := hn; have u1 : n < (4 : Int32) := c80_1; have u2 := hn; have u3 := ho; have u4 := Tb; have u5 := Tc; (try simp only [own_T, own_R, Int32.lt_iff_toInt_lt, ← Int32.toInt_inj, Int32.reduceToInt] at u0 u1 u2 u3 u4 u5) <;> (try simp only [own_T, own_R, Int32.lt_iff_toInt_lt, ← Int32.toInt_inj, Int32.reduceToInt]) <;> first | omega | (simp; done) | (simp; omega)) hx hby hml hown hnm hret hlk hZ (Stand.more X0 (by decide) (by decide)) e0 N0
  · refine g_icmpNo X0 hx (hb hby at_80) (flt c80_1).1 ?_
    refine g_aload X0 hx (hb hby at_83) rfl rfl ?_
    refine g_iload X0 hx (hb hby at_85) rfl ?_
    refine g_S X0 hx hZ hown (lk5 hw) (rm_valueOf hw wc clc p5 h0 n0 Z0 hN C1 C2 BX KO) e0 (hb hby at_87) hml.symm rfl (rest := [(.ref M)]) rfl (W := 1) (Nat.le_of_eq rfl) (by decide) (fun v2 T2 L2 X2 q2 => ?_)
    obtain ⟨b2, rfl, M2, Kc2, O2⟩ := q2
    have N2 := Fr.app N0 M2
    have O_M_2 := R_MP_keep O_M Kc2 nl
    have O_r_2 := R_ND_keep O_r Kc2 nl
    have O_t_2 := R_ND_keep O_t Kc2 nl
    have O_kx_2 := R_IN_keep O_kx Kc2 nl
    have O_km_2 := R_IN_keep O_km Kc2 nl
    have O_vm_2 := R_IN_keep O_vm Kc2 nl
    have KO_2 := Keep.trans KO Kc2 own_memn
    have ne_M_b2 : M ≠ b2 := own_exane O_M_2.1 O2.1 (by decide)
    have ne_r_b2 : r ≠ b2 := own_exane O_r_2.1 O2.1 (by decide)
    have ne_t_b2 : t ≠ b2 := own_exane O_t_2.1 O2.1 (by decide)
    have Z2 : n0 ≤ T2.heap.size := Nat.le_trans Z0 Kc2.1
    refine g_iconst X2 hx (3 : Int32) (hb hby at_90) (by decide) ?_
    refine g_S X2 hx hZ hown (lk5 hw) (rm_valueOf hw wc clc (3 : Int32) T2.heap n0 Z2 hN C1 C2 BX KO_2) (rfl : T2.heap = T2.heap) (hb hby at_91) hml.symm rfl (rest := [(.ref b2), (.ref M)]) rfl (W := 2) (Nat.le_of_eq rfl) (by decide) (fun v3 T3 L3 X3 q3 => ?_)
    obtain ⟨b3, rfl, M3, Kc3, O3⟩ := q3
    have N3 := Fr.app N2 M3
    have O_M_3 := R_MP_keep O_M_2 Kc3 nl
    have O_r_3 := R_ND_keep O_r_2 Kc3 nl
    have O_t_3 := R_ND_keep O_t_2 Kc3 nl
    have O_kx_3 := R_IN_keep O_kx_2 Kc3 nl
    have O_km_3 := R_IN_keep O_km_2 Kc3 nl
    have O_vm_3 := R_IN_keep O_vm_2 Kc3 nl
    have O_b2_3 := R_IN_keep O2 Kc3 nl
    have ne_M_b3 : M ≠ b3 := own_exane O_M_3.1 O3.1 (by decide)
    have ne_r_b3 : r ≠ b3 := own_exane O_r_3.1 O3.1 (by decide)
    have ne_t_b3 : t ≠ b3 := own_exane O_t_3.1 O3.1 (by decide)
    have Z3 : n0 ≤ T3.heap.size := Nat.le_trans Z2 Kc3.1
    rcases own_tri p5 x with t94_4 | ⟨t94_4, t94_4'⟩ | ⟨t94_4, t94_4'⟩
    · rcases own_tri p5 ma with t94_5 | ⟨t94_5, t94_5'⟩ | ⟨t94_5, t94_5'⟩
      · refine g_V X3 hx hZ hown (lk19 hw) (rm_put_42 hw M b2 b3 r mc p5 kx vx t x km vm ma T3.heap n0 Z3 O_M_3 O_b2_3 O_r_3 O_kx_3 O_t_3 O_km_3 ne_M_r ne_M_t ne_r_b2.symm ne_r_t ne_r_km g_M g_r g_t t94_4 t94_5) (rfl : T3.heap = T3.heap) O_M_3.1 (hb hby at_94) hml.symm rfl rfl (Nat.le_refl _) (by decide) (fun v6 T6 L6 X6 q6 => ?_)
        obtain ⟨b6_0, rfl, M6, Kc6, zb6_0, Rk6_0, Rk6_1, Rk6_2, Rk6_3⟩ := q6
        have N6 := Fr.app N3 M6
        have ne_M_b6_0 : M ≠ b6_0 := Nat.ne_of_lt (Nat.lt_of_lt_of_le O_M_3.1.lt zb6_0)
        have ne_t_b6_0 : t ≠ b6_0 := Nat.ne_of_lt (Nat.lt_of_lt_of_le O_t_3.1.lt zb6_0)
        have ne_b2_b6_0 : b2 ≠ b6_0 := Nat.ne_of_lt (Nat.lt_of_lt_of_le O_b2_3.1.lt zb6_0)
        have ne_b3_b6_0 : b3 ≠ b6_0 := Nat.ne_of_lt (Nat.lt_of_lt_of_le O3.1.lt zb6_0)
        have g_b6_0 : n0 ≤ b6_0 := Nat.le_trans Z3 zb6_0
        have O_b2_6 := R_IN_keep O_b2_3 Kc6 (own_nin ne_M_b2.symm (own_nin ne_r_b2.symm (own_nin ne_t_b2.symm nl)))
        have O_b3_6 := R_IN_keep O3 Kc6 (own_nin ne_M_b3.symm (own_nin ne_r_b3.symm (own_nin ne_t_b3.symm nl)))
        have Z6 : n0 ≤ T6.heap.size := Nat.le_trans Z3 Kc6.1
        refine g_pop X6 hx (hb hby at_97) rfl ?_
        exact seg_98_D2 hw p1 p2 p3 p4 p5 n M (mc + (1 : Int32)) (3 : Int32) t (.ref r) (1 : Int32) km vm b6_0 .null (-2147483648 : Int32) b2 b3 p5 (3 : Int32) m2 v2 ma va T6.heap n0 Z6 Rk6_0 Rk6_2 Rk6_3 O_b2_6 O_b3_6 ne_M_t ne_M_b6_0 ne_M_b2 ne_M_b3 ne_t_b6_0 ne_t_b2 ne_t_b3 ne_b2_b6_0.symm ne_b3_b6_0.symm g_M g_t g_b6_0 hn Tb Tc (by have u0 : ¬ (n = (0 : Int32)) := hn; have u1 : ¬ (n < (4 : Int32)) := c80_1; have u2 : p5 < x := t94_4; have u3 : p5 < ma := t94_5; have u4 := hn; have u5 := ho; have u6 := Tb; have u7 := Tc; (try simp only [own_T, own_R, Int32.lt_iff_toInt_lt, ← Int32.toInt_inj, Int32.reduceToInt] at u0 u1 u2 u3 u4 u5 u6 u7) <;> (try simp only [own_T, own_R, Int32.lt_iff_toInt_lt, ← Int32.toInt_inj, Int32.reduceToInt]) <;> first | omega | (simp; done) | (simp; omega)) hx hby hml hown hnm hret hlk hZ (Stand.more X6 (by decide) (by decide)) (rfl : T6.heap = T6.heap) N6
      · refine g_V X3 hx hZ hown (lk19 hw) (rm_put_60 hw M b2 b3 r mc p5 kx vx t x km vm ma T3.heap n0 Z3 O_M_3 O_b2_3 O_r_3 O_kx_3 O_t_3 O_km_3 ne_M_r ne_r_b2.symm ne_r_t ne_r_km g_r g_t t94_4 t94_5 t94_5') (rfl : T3.heap = T3.heap) O_M_3.1 (hb hby at_94) hml.symm rfl rfl (Nat.le_refl _) (by decide) (fun v7 T7 L7 X7 q7 => ?_)
        obtain ⟨rfl, M7, Kc7, Rk7_0, Rk7_1⟩ := q7
        have N7 := Fr.app N3 M7
        have O_M_7 := R_MP_keep O_M_3 Kc7 (own_nin ne_M_r (own_nin ne_M_t nl))
        have O_km_7 := R_IN_keep O_km_3 Kc7 (own_nin ne_r_km.symm (own_nin ne_t_km.symm nl))
        have O_b3_7 := R_IN_keep O3 Kc7 (own_nin ne_r_b3.symm (own_nin ne_t_b3.symm nl))
        have Z7 : n0 ≤ T7.heap.size := Nat.le_trans Z3 Kc7.1
        refine g_pop X7 hx (hb hby at_97) rfl ?_
        exact seg_98_D2 hw p1 p2 p3 p4 p5 n M mc (2 : Int32) r .null (1 : Int32) kx vx t .null (-2147483648 : Int32) km b3 ma (3 : Int32) m2 v2 ma va T7.heap n0 Z7 O_M_7 Rk7_0 Rk7_1 O_km_7 O_b3_7 ne_M_r ne_M_t ne_M_km ne_M_b3 ne_r_t ne_r_km ne_r_b3 ne_t_km ne_t_b3 g_M g_r g_t hn Tb Tc (by have u0 : ¬ (n = (0 : Int32)) := hn; have u1 : ¬ (n < (4 : Int32)) := c80_1; have u2 : p5 < x := t94_4; have u3 : ¬ (p5 < ma) := t94_5; have u4 : p5 = ma := t94_5'; have u5 := hn; have u6 := ho; have u7 := Tb; have u8 := Tc; (try simp only [own_T, own_R, Int32.lt_iff_toInt_lt, ← Int32.toInt_inj, Int32.reduceToInt] at u0 u1 u2 u3 u4 u5 u6 u7 u8) <;> (try simp only [own_T, own_R, Int32.lt_iff_toInt_lt, ← Int32.toInt_inj, Int32.reduceToInt]) <;> first | omega | (simp; done) | (simp; omega)) hx hby hml hown hnm hret hlk hZ (Stand.more X7 (by decide) (by decide)) (rfl : T7.heap = T7.heap) N7
      · refine g_V X3 hx hZ hown (lk19 hw) (rm_put_68 hw M b2 b3 r mc p5 kx vx t x km vm ma T3.heap n0 Z3 O_M_3 O_b2_3 O_r_3 O_kx_3 O_t_3 O_km_3 ne_M_r ne_M_t ne_r_b2.symm ne_r_t ne_r_km g_M g_r g_t t94_4 t94_5 t94_5') (rfl : T3.heap = T3.heap) O_M_3.1 (hb hby at_94) hml.symm rfl rfl (Nat.le_refl _) (by decide) (fun v8 T8 L8 X8 q8 => ?_)
        obtain ⟨b8_0, rfl, M8, Kc8, zb8_0, Rk8_0, Rk8_1, Rk8_2, Rk8_3⟩ := q8
        have N8 := Fr.app N3 M8
        have ne_M_b8_0 : M ≠ b8_0 := Nat.ne_of_lt (Nat.lt_of_lt_of_le O_M_3.1.lt zb8_0)
        have ne_t_b8_0 : t ≠ b8_0 := Nat.ne_of_lt (Nat.lt_of_lt_of_le O_t_3.1.lt zb8_0)
        have ne_km_b8_0 : km ≠ b8_0 := Nat.ne_of_lt (Nat.lt_of_lt_of_le O_km_3.1.lt zb8_0)
        have ne_vm_b8_0 : vm ≠ b8_0 := Nat.ne_of_lt (Nat.lt_of_lt_of_le O_vm_3.1.lt zb8_0)
        have g_b8_0 : n0 ≤ b8_0 := Nat.le_trans Z3 zb8_0
        have O_km_8 := R_IN_keep O_km_3 Kc8 (own_nin ne_M_km.symm (own_nin ne_r_km.symm (own_nin ne_t_km.symm nl)))
        have O_vm_8 := R_IN_keep O_vm_3 Kc8 (own_nin ne_M_vm.symm (own_nin ne_r_vm.symm (own_nin ne_t_vm.symm nl)))
        have Z8 : n0 ≤ T8.heap.size := Nat.le_trans Z3 Kc8.1
        refine g_pop X8 hx (hb hby at_97) rfl ?_
        exact seg_98_D2 hw p1 p2 p3 p4 p5 n M (mc + (1 : Int32)) (3 : Int32) b8_0 (.ref r) (1 : Int32) b2 b3 t .null (-2147483648 : Int32) km vm ma va m2 v2 ma va T8.heap n0 Z8 Rk8_0 Rk8_3 Rk8_2 O_km_8 O_vm_8 ne_M_b8_0 ne_M_t ne_M_km ne_M_vm ne_t_b8_0.symm ne_km_b8_0.symm ne_vm_b8_0.symm ne_t_km ne_t_vm g_M g_b8_0 g_t hn Tb Tc (by have u0 : ¬ (n = (0 : Int32)) := hn; have u1 : ¬ (n < (4 : Int32)) := c80_1; have u2 : p5 < x := t94_4; have u3 : ¬ (p5 < ma) := t94_5; have u4 : ¬ (p5 = ma) := t94_5'; have u5 := hn; have u6 := ho; have u7 := Tb; have u8 := Tc; (try simp only [own_T, own_R, Int32.lt_iff_toInt_lt, ← Int32.toInt_inj, Int32.reduceToInt] at u0 u1 u2 u3 u4 u5 u6 u7 u8) <;> (try simp only [own_T, own_R, Int32.lt_iff_toInt_lt, ← Int32.toInt_inj, Int32.reduceToInt]) <;> first | omega | (simp; done) | (simp; omega)) hx hby hml hown hnm hret hlk hZ (Stand.more X8 (by decide) (by decide)) (rfl : T8.heap = T8.heap) N8
    · refine g_V X3 hx hZ hown (lk19 hw) (rm_put_79 hw M b2 b3 r mc p5 kx vx t x km vm T3.heap n0 Z3 O_M_3 O_b2_3 O_r_3 O_kx_3 O_t_3 g_r t94_4 t94_4') (rfl : T3.heap = T3.heap) O_M_3.1 (hb hby at_94) hml.symm rfl rfl (Nat.le_refl _) (by decide) (fun v9 T9 L9 X9 q9 => ?_)
      obtain ⟨rfl, M9, Kc9, Rk9_0⟩ := q9
      have N9 := Fr.app N3 M9
      have O_M_9 := R_MP_keep O_M_3 Kc9 (own_nin ne_M_r nl)
      have O_t_9 := R_ND_keep O_t_3 Kc9 (own_nin ne_r_t.symm nl)
      have O_km_9 := R_IN_keep O_km_3 Kc9 (own_nin ne_r_km.symm nl)
      have O_vm_9 := R_IN_keep O_vm_3 Kc9 (own_nin ne_r_vm.symm nl)
      have Z9 : n0 ≤ T9.heap.size := Nat.le_trans Z3 Kc9.1
      refine g_pop X9 hx (hb hby at_97) rfl ?_
      exact seg_98_D2 hw p1 p2 p3 p4 p5 n M mc (2 : Int32) r .null (1 : Int32) kx b3 t .null (-2147483648 : Int32) km vm ma va m2 v2 ma va T9.heap n0 Z9 O_M_9 Rk9_0 O_t_9 O_km_9 O_vm_9 ne_M_r ne_M_t ne_M_km ne_M_vm ne_r_t ne_r_km ne_r_vm ne_t_km ne_t_vm g_M g_r g_t hn Tb Tc (by have u0 : ¬ (n = (0 : Int32)) := hn; have u1 : ¬ (n < (4 : Int32)) := c80_1; have u2 : ¬ (p5 < x) := t94_4; have u3 : p5 = x := t94_4'; have u4 := hn; have u5 := ho; have u6 := Tb; have u7 := Tc; (try simp only [own_T, own_R, Int32.lt_iff_toInt_lt, ← Int32.toInt_inj, Int32.reduceToInt] at u0 u1 u2 u3 u4 u5 u6 u7) <;> (try simp only [own_T, own_R, Int32.lt_iff_toInt_lt, ← Int32.toInt_inj, Int32.reduceToInt]) <;> first | omega | (simp; done) | (simp; omega)) hx hby hml hown hnm hret hlk hZ (Stand.more X9 (by decide) (by decide)) (rfl : T9.heap = T9.heap) N9
    · refine g_V X3 hx hZ hown (lk19 hw) (rm_put_83 hw M b2 b3 r mc p5 kx vx t x km vm T3.heap n0 Z3 O_M_3 O_b2_3 O_r_3 O_kx_3 O_t_3 ne_M_r g_M g_r t94_4 t94_4') (rfl : T3.heap = T3.heap) O_M_3.1 (hb hby at_94) hml.symm rfl rfl (Nat.le_refl _) (by decide) (fun v10 T10 L10 X10 q10 => ?_)
      obtain ⟨b10_0, rfl, M10, Kc10, zb10_0, Rk10_0, Rk10_1, Rk10_2⟩ := q10
      have N10 := Fr.app N3 M10
      have O_t_10 := R_ND_keep O_t_3 Kc10 (own_nin ne_M_t.symm (own_nin ne_r_t.symm nl))
      have O_km_10 := R_IN_keep O_km_3 Kc10 (own_nin ne_M_km.symm (own_nin ne_r_km.symm nl))
      have O_vm_10 := R_IN_keep O_vm_3 Kc10 (own_nin ne_M_vm.symm (own_nin ne_r_vm.symm nl))
      have Z10 : n0 ≤ T10.heap.size := Nat.le_trans Z3 Kc10.1
      refine g_pop X10 hx (hb hby at_97) rfl ?_
      exact seg_98_D2 hw p1 p2 p3 p4 p5 n M (mc + (1 : Int32)) (3 : Int32) r (.ref b10_0) (1 : Int32) kx vx t .null (-2147483648 : Int32) km vm ma va m2 v2 ma va T10.heap n0 Z10 Rk10_0 Rk10_1 O_t_10 O_km_10 O_vm_10 ne_M_r ne_M_t ne_M_km ne_M_vm ne_r_t ne_r_km ne_r_vm ne_t_km ne_t_vm g_M g_r g_t hn Tb Tc (by have u0 : ¬ (n = (0 : Int32)) := hn; have u1 : ¬ (n < (4 : Int32)) := c80_1; have u2 : ¬ (p5 < x) := t94_4; have u3 : ¬ (p5 = x) := t94_4'; have u4 := hn; have u5 := ho; have u6 := Tb; have u7 := Tc; (try simp only [own_T, own_R, Int32.lt_iff_toInt_lt, ← Int32.toInt_inj, Int32.reduceToInt] at u0 u1 u2 u3 u4 u5 u6 u7) <;> (try simp only [own_T, own_R, Int32.lt_iff_toInt_lt, ← Int32.toInt_inj, Int32.reduceToInt]) <;> first | omega | (simp; done) | (simp; omega)) hx hby hml hown hnm hret hlk hZ (Stand.more X10 (by decide) (by decide)) (rfl : T10.heap = T10.heap) N10
theorem rm_addToLeftCount_88 (hw : HW a0 Z) (a1 a2 : Addr) (a3 a4 : Addr) (h0 : Heap) (n0 : Nat) (Z0 : n0 ≤ h0.size) (O_a1 : R_ND Z h0 a1 (.ref a2) (.ref a3) .null (.ref a4) .null (.int 0)) (g_a1 : n0 ≤ a1) :
    Ctr l Y12 B11 2 none [] (rmk 0 0 0 0) Z #[(.ref a1), (.int 1)] h0 (fun v h L => v = none ∧ Fr n0 L ∧ Keep h0 h [a1] ∧ R_ND Z h a1 (.ref a2) (.ref a3) .null (.ref a4) .null (.int 1)) := by
  refine own_enter pn_2 (fun p e s m below meth c s₁ hx hby hml hown hnm hret hlk hZ X0 e0 => ?_)
  have N0 := Fr.nil n0
  have K0 := Keep.refl h0 [a1]
  rw [ef_22_RI m _ _]
  refine g_aloadN X0 hx (hb hby d22_0) rfl rfl ?_
  refine g_dup X0 hx (hb hby d22_1) rfl ?_
  refine g_getF X0 hx hZ hown (Wd94 hw) e0 O_a1.2.2.2.2.2.2 (hb hby d22_2) (fun T1 X1 e1 => ?_)
  refine g_iloadN X1 hx (hb hby d22_5) rfl ?_
  refine g_iadd X1 hx (hb hby d22_6) ?_
  show Go p e below (T1.setTop (mkF m 7 #[vr a1, vi 1] [(.int ((0 : Int32) + (1 : Int32))), (.ref a1)])) _
  rw [show ((0 : Int32) + (1 : Int32)) = (1 : Int32) from by decide]
  refine g_putF X1 hx hZ hown (Wd94 hw) e1 O_a1.2.2.2.2.2.2 O_a1.1 (Or.inl (Wd84 hw)) (Wd76 hw) fd_0 rfl rfl (hb hby d22_7) (fun T2 h2 X2 e2 W2 => ?_)
  have N2 := Fr.snoc X2 N0 g_a1
  have O_a1_2 := R_ND_set_redAndLeftCount hw W2 O_a1
  have K2 := Keep.wr K0 W2 (mw 0 rfl)
  exact own_retV X2 hx hret hlk (hb hby d22_10) (by decide) (by decide) (by rw [e2]; exact ⟨rfl, N2, K2, O_a1_2⟩)
theorem rm_balanceAfterInsert_89 (hw : HW a0 Z) (a1 a2 a3 : Addr) (i1 : Int32) (a4 a5 : Addr) (a6 a7 a8 : Addr) (i2 i3 : Int32) (h0 : Heap) (n0 : Nat) (Z0 : n0 ≤ h0.size) (O_a1 : R_MP Z h0 a1 .null (.ref a3) (.int 3) (.int i1)) (O_a2 : R_ND Z h0 a2 (.ref a4) (.ref a5) .null .null (.ref a3) (.int (-2147483648))) (O_a3 : R_ND Z h0 a3 (.ref a6) (.ref a7) (.ref a2) (.ref a8) .null (.int 1)) (g_a3 : n0 ≤ a3) (hk0 : i2 < i3) :
    Ctr l Y18 B17 6 none [] (rmk 1 0 0 13) Z #[(.ref a1), (.ref a2)] h0 (fun v h L => v = none ∧ Fr n0 L ∧ Keep h0 h [a3] ∧ R_ND Z h a3 (.ref a6) (.ref a7) (.ref a2) (.ref a8) .null (.int 1)) := by
  refine own_enter pn_2 (fun p e s m below meth c s₁ hx hby hml hown hnm hret hlk hZ X0 e0 => ?_)
  have N0 := Fr.nil n0
  have K0 := Keep.refl h0 [a3]
  rw [ef_17_RR m _ _]
  refine g_aloadN X0 hx (hb hby d17_0) rfl rfl ?_
  refine g_astoreN X0 hx #[vr a1, vr a2, vr a2, vu, vu, vu] (hb hby d17_1) rfl rfl ?_
  refine g_aloadN X0 hx (hb hby d17_2) rfl rfl ?_
  refine g_getF X0 hx hZ hown (Wd117 hw) e0 O_a2.2.2.2.2.2.1 (hb hby d17_3) (fun T1 X1 e1 => ?_)
  refine g_S X1 hx hZ hown (lk15 hw) (rm_isRed_58 hw a3 a6 a7 a2 a8 h0 n0 Z0 O_a3) e1 (hb hby d17_6) hml.symm rfl rfl (Nat.le_refl _) (by decide) (fun v2 T2 L2 X2 q2 => ?_)
  obtain ⟨rfl, M2, e2⟩ := q2
  have N2 := Fr.app N0 M2
  refine g_ifYes X2 hx 188 (hb hby d17_9) ((if0 _ _).trans (teq ((by decide) : (0 : Int32) = (0 : Int32))).1) (by decide) (by decide) ?_
  refine g_aloadN X2 hx (hb hby d17_188) rfl rfl ?_
  refine g_getF X2 hx hZ hown (Wd25 hw) e2 O_a1.2.2.1 (hb hby d17_189) (fun T3 X3 e3 => ?_)
  refine g_iconst X3 hx (0 : Int32) (hb hby d17_192) (by decide) ?_
  refine g_S X3 hx hZ hown (lk16 hw) (rm_setRed_59 hw a3 a6 a7 a2 a8 h0 n0 Z0 O_a3 g_a3) e3 (hb hby d17_193) hml.symm rfl rfl (Nat.le_refl _) (by decide) (fun v4 T4 L4 X4 q4 => ?_)
  obtain ⟨rfl, M4, Kc4, Rk4_0⟩ := q4
  have N4 := Fr.app N2 M4
  have K4 := Keep.trans K0 Kc4 (own_memc (mw 0 rfl) own_memn)
  exact own_retV X4 hx hret hlk (hb hby d17_196) (by decide) (by decide) (by rw [(rfl : T4.heap = T4.heap)]; exact ⟨rfl, N4, K4, Rk4_0⟩)
theorem rm_addIfAbsent_87 (hw : HW a0 Z) (a1 a2 : Addr) (a3 a4 : Addr) (i1 i2 : Int32) (a5 a6 a7 : Addr) (i3 : Int32) (a8 a9 : Addr) (h0 : Heap) (n0 : Nat) (Z0 : n0 ≤ h0.size) (O_a1 : R_MP Z h0 a1 .null (.ref a4) (.int 2) (.int i1)) (O_a2 : R_IN Z h0 a2 (.int i2)) (O_a4 : R_ND Z h0 a4 (.ref a5) (.ref a6) .null (.ref a7) .null (.int 0)) (O_a5 : R_IN Z h0 a5 (.int i3)) (O_a7 : R_ND Z h0 a7 (.ref a8) (.ref a9) .null .null (.ref a4) (.int (-2147483648))) (ne_a1_a4 : a1 ≠ a4) (g_a1 : n0 ≤ a1) (g_a4 : n0 ≤ a4) (hk0 : i2 < i3) :
    CtrH l Y19 B18 15 (some F1_) [(71, 122, 210, 0), (137, 195, 210, 0), (210, 212, 210, 0)] (rmk 4 1 6 53) Z #[(.ref a1), (.ref a2), (.ref a3)] h0 (fun v h L => ∃ f1, v = some .null ∧ Fr n0 L ∧ Keep h0 h [a1, a4] ∧ h0.size ≤ f1 ∧ R_MP Z h a1 .null (.ref a4) (.int 3) (.int (i1 + (1 : Int32))) ∧ R_ND Z h a4 (.ref a5) (.ref a6) (.ref f1) (.ref a7) .null (.int 1) ∧ R_ND Z h f1 (.ref a2) (.ref a3) .null .null (.ref a4) (.int (-2147483648))) := by
  refine own_enterH pn_2 (fun p e s m below meth c s₁ hx hby hml hown hnm hret hlk hZ X0 e0 => ?_)
  have D {q : Nat} {r} (z : decode B18 q = r) : decode c.code q = r := hb hby z
  have N0 := Fr.nil n0
  have K0 := Keep.refl h0 [a1, a4]
  rw [ef_33_RRR m _ _ _]
  refine g_aloadN X0 hx (D d33_0) rfl rfl ?_
  refine g_getF X0 hx hZ hown (Wd25 hw) e0 O_a1.2.2.1 (D d33_1) (fun T1 X1 e1 => ?_)
  refine g_nonnullYes X1 hx 50 (D d33_4) (by decide) (by decide) ?_
  refine g_null X1 hx (D d33_50) ?_
  refine g_astoreN X1 hx #[vr a1, vr a2, vr a3, vn, vu, vu, vu, vu, vu, vu, vu, vu, vu, vu, vu] (D d33_51) rfl rfl ?_
  refine g_iconst X1 hx (0 : Int32) (D d33_52) (by decide) ?_
  refine g_istore X1 hx #[vr a1, vr a2, vr a3, vn, vi 0, vu, vu, vu, vu, vu, vu, vu, vu, vu, vu] (D d33_53) rfl ?_
  refine g_aloadN X1 hx (D d33_55) rfl rfl ?_
  refine g_getF X1 hx hZ hown (Wd25 hw) e1 O_a1.2.2.1 (D d33_56) (fun T2 X2 e2 => ?_)
  refine g_astore X2 hx #[vr a1, vr a2, vr a3, vn, vi 0, vr a4, vu, vu, vu, vu, vu, vu, vu, vu, vu] (D d33_59) rfl rfl ?_
  refine g_aload X2 hx (D d33_61) rfl rfl ?_
  refine g_getF X2 hx hZ hown (Wd100 hw) e2 O_a4.2.1 (D d33_63) (fun T3 X3 e3 => ?_)
  refine g_astore X3 hx #[vr a1, vr a2, vr a3, vn, vi 0, vr a4, vr a5, vu, vu, vu, vu, vu, vu, vu, vu] (D d33_66) rfl rfl ?_
  refine g_null X3 hx (D d33_68) ?_
  refine g_astore X3 hx #[vr a1, vr a2, vr a3, vn, vi 0, vr a4, vr a5, vn, vu, vu, vu, vu, vu, vu, vu] (D d33_69) rfl rfl ?_
  refine g_aload X3 hx (D d33_71) rfl rfl ?_
  refine g_nullNo X3 hx (D d33_73) ?_
  refine g_aload X3 hx (D d33_76) rfl rfl ?_
  refine g_getF X3 hx hZ hown (Wd101 hw) e3 O_a4.2.2.2.1 (D d33_78) (fun T4 X4 e4 => ?_)
  refine g_astore X4 hx #[vr a1, vr a2, vr a3, vn, vi 0, vr a4, vr a5, vn, vn, vu, vu, vu, vu, vu, vu] (D d33_81) rfl rfl ?_
  refine g_aload X4 hx (D d33_83) rfl rfl ?_
  refine g_getF X4 hx hZ hown (Wd103 hw) e4 O_a4.2.2.2.2.1 (D d33_85) (fun T5 X5 e5 => ?_)
  refine g_astore X5 hx #[vr a1, vr a2, vr a3, vn, vi 0, vr a4, vr a5, vn, vn, vr a7, vu, vu, vu, vu, vu] (D d33_88) rfl rfl ?_
  refine g_aload X5 hx (D d33_90) rfl rfl ?_
  refine g_S X5 hx hZ hown (lk6 hw) (rm_keyOf_12 hw  h0 n0 Z0 ) e5 (D d33_92) hml.symm rfl rfl (Nat.le_refl _) (by decide) (fun v6 T6 L6 X6 q6 => ?_)
  obtain ⟨rfl, M6, e6⟩ := q6
  have N6 := Fr.app N0 M6
  refine g_astore X6 hx #[vr a1, vr a2, vr a3, vn, vi 0, vr a4, vr a5, vn, vn, vr a7, vn, vu, vu, vu, vu] (D d33_95) rfl rfl ?_
  refine g_aload X6 hx (D d33_97) rfl rfl ?_
  refine g_S X6 hx hZ hown (lk6 hw) (rm_keyOf_44 hw a7 a8 a9 a4 h0 n0 Z0 O_a7) e6 (D d33_99) hml.symm rfl rfl (Nat.le_refl _) (by decide) (fun v7 T7 L7 X7 q7 => ?_)
  obtain ⟨rfl, M7, e7⟩ := q7
  have N7 := Fr.app N6 M7
  refine g_astore X7 hx #[vr a1, vr a2, vr a3, vn, vi 0, vr a4, vr a5, vn, vn, vr a7, vn, vr a8, vu, vu, vu] (D d33_102) rfl rfl ?_
  refine g_aloadN X7 hx (D d33_104) rfl rfl ?_
  refine g_aloadN X7 hx (D d33_105) rfl rfl ?_
  refine g_aload X7 hx (D d33_106) rfl rfl ?_
  refine g_V X7 hx hZ hown (lk10 hw) (rm_compare_45 hw a1 a2 a5 a4 i1 i2 i3 h0 n0 Z0 O_a1 O_a2 O_a5 hk0) e7 O_a1.1 (D d33_108) hml.symm rfl rfl (Nat.le_refl _) (by decide) (fun v8 T8 L8 X8 q8 => ?_)
  obtain ⟨rfl, M8, e8⟩ := q8
  have N8 := Fr.app N7 M8
  refine g_istore X8 hx #[vr a1, vr a2, vr a3, vn, vi 0, vr a4, vr a5, vn, vn, vr a7, vn, vr a8, vi (-1), vu, vu] (D d33_111) rfl ?_
  refine g_iload X8 hx (D d33_113) rfl ?_
  refine g_ifYes X8 hx 137 (D d33_115) ((if0 _ _).trans (feq ((by decide) : ¬ ((-1 : Int32) = (0 : Int32)))).2) (by decide) (by decide) ?_
  refine g_aload X8 hx (D d33_137) rfl rfl ?_
  refine g_astoreN X8 hx #[vr a1, vr a2, vr a3, vr a4, vi 0, vr a4, vr a5, vn, vn, vr a7, vn, vr a8, vi (-1), vu, vu] (D d33_139) rfl rfl ?_
  refine g_iload X8 hx (D d33_140) rfl ?_
  refine g_istore X8 hx #[vr a1, vr a2, vr a3, vr a4, vi (-1), vr a4, vr a5, vn, vn, vr a7, vn, vr a8, vi (-1), vu, vu] (D d33_142) rfl ?_
  refine g_iload X8 hx (D d33_144) rfl ?_
  refine g_ifNo X8 hx (D d33_146) ((if0 _ _).trans (tlt ((by decide) : (-1 : Int32) < (0 : Int32))).2.1) ?_
  refine g_aload X8 hx (D d33_149) rfl rfl ?_
  refine g_iconst X8 hx (1 : Int32) (D d33_151) (by decide) ?_
  refine g_S X8 hx hZ hown (lk11 hw) (rm_addToLeftCount_88 hw a4 a5 a6 a7 h0 n0 Z0 O_a4 g_a4) e8 (D d33_152) hml.symm rfl rfl (Nat.le_refl _) (by decide) (fun v9 T9 L9 X9 q9 => ?_)
  obtain ⟨rfl, M9, Kc9, Rk9_0⟩ := q9
  have N9 := Fr.app N8 M9
  have O_a1_9 := R_MP_keep O_a1 Kc9 (own_nin ne_a1_a4 nl)
  have K9 := Keep.trans K0 Kc9 (own_memc (mw 1 rfl) own_memn)
  have Z9 : n0 ≤ T9.heap.size := Nat.le_trans Z0 Kc9.1
  refine g_iload X9 hx (D d33_155) rfl ?_
  refine g_ifNo X9 hx (D d33_157) ((if0 _ _).trans (tlt ((by decide) : (-1 : Int32) < (0 : Int32))).2.1) ?_
  refine g_aload X9 hx (D d33_160) rfl rfl ?_
  refine g_goto X9 hx 167 (D d33_162) (by decide) (by decide) ?_
  refine g_astore X9 hx #[vr a1, vr a2, vr a3, vr a4, vi (-1), vn, vr a5, vn, vn, vr a7, vn, vr a8, vi (-1), vu, vu] (D d33_167) rfl rfl ?_
  refine g_iload X9 hx (D d33_169) rfl ?_
  refine g_ifNo X9 hx (D d33_171) ((if0 _ _).trans (tlt ((by decide) : (-1 : Int32) < (0 : Int32))).2.1) ?_
  refine g_aload X9 hx (D d33_174) rfl rfl ?_
  refine g_goto X9 hx 181 (D d33_176) (by decide) (by decide) ?_
  refine g_astore X9 hx #[vr a1, vr a2, vr a3, vr a4, vi (-1), vn, vn, vn, vn, vr a7, vn, vr a8, vi (-1), vu, vu] (D d33_181) rfl rfl ?_
  refine g_goto X9 hx 71 (D d33_183) (by decide) (by decide) ?_
  refine g_aload X9 hx (D d33_71) rfl rfl ?_
  refine g_nullYes X9 hx 186 (D d33_73) (by decide) (by decide) ?_
  refine g_aloadN X9 hx (D d33_186) rfl rfl ?_
  refine g_aloadN X9 hx (D d33_187) rfl rfl ?_
  refine g_aloadN X9 hx (D d33_188) rfl rfl ?_
  refine g_aloadN X9 hx (D d33_189) rfl rfl ?_
  refine g_V X9 hx hZ hown (lk13 hw) (rm_newNode_18 hw a1 a2 a3 a4 T9.heap n0 Z9 ) (rfl : T9.heap = T9.heap) O_a1_9.1 (D d33_190) hml.symm rfl rfl (Nat.le_refl _) (by decide) (fun v10 T10 L10 X10 q10 => ?_)
  obtain ⟨b10_0, rfl, M10, Kc10, zb10_0, Rk10_0⟩ := q10
  have N10 := Fr.app N9 M10
  have ne_a1_b10_0 : a1 ≠ b10_0 := Nat.ne_of_lt (Nat.lt_of_lt_of_le O_a1_9.1.lt zb10_0)
  have ne_a4_b10_0 : a4 ≠ b10_0 := Nat.ne_of_lt (Nat.lt_of_lt_of_le Rk9_0.1.lt zb10_0)
  have sz_b10_0 : h0.size ≤ b10_0 := Nat.le_trans K9.1 zb10_0
  have O_a1_10 := R_MP_keep O_a1_9 Kc10 nl
  have O_a4_10 := R_ND_keep Rk9_0 Kc10 nl
  have K10 := Keep.trans K9 Kc10 own_memn
  have Z10 : n0 ≤ T10.heap.size := Nat.le_trans Z9 Kc10.1
  refine g_astore X10 hx #[vr a1, vr a2, vr a3, vr a4, vi (-1), vn, vn, vr b10_0, vn, vr a7, vn, vr a8, vi (-1), vu, vu] (D d33_193) rfl rfl ?_
  refine g_aload X10 hx (D d33_195) rfl rfl ?_
  refine g_nonnullYes X10 hx 227 (D d33_197) (by decide) (by decide) ?_
  refine g_iload X10 hx (D d33_227) rfl ?_
  refine g_ifNo X10 hx (D d33_229) ((if0 _ _).trans (tlt ((by decide) : (-1 : Int32) < (0 : Int32))).2.1) ?_
  refine g_aloadN X10 hx (D d33_232) rfl rfl ?_
  refine g_aload X10 hx (D d33_233) rfl rfl ?_
  refine g_putF X10 hx hZ hown (Wd101 hw) (rfl : T10.heap = T10.heap) O_a4_10.2.2.2.1 O_a4_10.1 (Or.inl (Wd102 hw)) (Wd76 hw) fd_2 rfl rfl (D d33_235) (fun T11 h11 X11 e11 W11 => ?_)
  have N11 := Fr.snoc X11 N10 g_a4
  have O_a1_11 := R_MP_other W11 O_a1_10 ne_a1_a4
  have O_a4_11 := R_ND_set_left hw W11 O_a4_10
  have O_b10_0_11 := R_ND_other W11 Rk10_0 ne_a4_b10_0.symm
  have Z11 : n0 ≤ h11.size := Nat.le_trans Z10 (Nat.le_of_eq W11.size.symm)
  have K11 := Keep.wr K10 W11 (mw 1 rfl)
  refine g_goto X11 hx 247 (D d33_238) (by decide) (by decide) ?_
  refine g_aloadN X11 hx (D d33_247) rfl rfl ?_
  refine g_dup X11 hx (D d33_248) rfl ?_
  refine g_getF X11 hx hZ hown (Wd96 hw) e11 O_a1_11.2.2.2.1 (D d33_249) (fun T12 X12 e12 => ?_)
  refine g_iconst X12 hx (1 : Int32) (D d33_252) (by decide) ?_
  refine g_iadd X12 hx (D d33_253) ?_
  show Go p e below (T12.setTop (mkF m 254 #[vr a1, vr a2, vr a3, vr a4, vi (-1), vn, vn, vr b10_0, vn, vr a7, vn, vr a8, vi (-1), vu, vu] [(.int ((2 : Int32) + (1 : Int32))), (.ref a1)])) _
  rw [show ((2 : Int32) + (1 : Int32)) = (3 : Int32) from by decide]
  refine g_putF X12 hx hZ hown (Wd96 hw) e12 O_a1_11.2.2.2.1 O_a1_11.1 (Or.inl (Wd97 hw)) (Wd2 hw) fd_0 rfl rfl (D d33_254) (fun T13 h13 X13 e13 W13 => ?_)
  have N13 := Fr.snoc X13 N11 g_a1
  have O_a1_13 := R_MP_set_size hw W13 O_a1_11
  have O_a4_13 := R_ND_other W13 O_a4_11 ne_a1_a4.symm
  have O_b10_0_13 := R_ND_other W13 O_b10_0_11 ne_a1_b10_0.symm
  have Z13 : n0 ≤ h13.size := Nat.le_trans Z11 (Nat.le_of_eq W13.size.symm)
  have K13 := Keep.wr K11 W13 (mw 0 rfl)
  refine g_aloadN X13 hx (D d33_257) rfl rfl ?_
  refine g_aloadN X13 hx (D d33_258) rfl rfl ?_
  refine g_V X13 hx hZ hown (lk14 hw) (rm_refreshToRoot_20 hw a1 a4 h13 n0 Z13 ) e13 O_a1_13.1 (D d33_259) hml.symm rfl rfl (Nat.le_refl _) (by decide) (fun v14 T14 L14 X14 q14 => ?_)
  obtain ⟨rfl, M14, e14⟩ := q14
  have N14 := Fr.app N13 M14
  refine g_aloadN X14 hx (D d33_262) rfl rfl ?_
  refine g_aload X14 hx (D d33_263) rfl rfl ?_
  refine g_P X14 hx hZ hown (lk17 hw) (rm_balanceAfterInsert_89 hw a1 b10_0 a4 i1 a2 a3 a5 a6 a7 i2 i3 h13 n0 Z13 O_a1_13 O_b10_0_13 O_a4_13 g_a4 hk0) e14 O_a1_13.1 (D d33_265) hml.symm rfl rfl (Nat.le_refl _) (by decide) (fun v15 T15 L15 X15 q15 => ?_)
  obtain ⟨rfl, M15, Kc15, Rk15_0⟩ := q15
  have N15 := Fr.app N14 M15
  have O_a1_15 := R_MP_keep O_a1_13 Kc15 (own_nin ne_a1_a4 nl)
  have O_b10_0_15 := R_ND_keep O_b10_0_13 Kc15 (own_nin ne_a4_b10_0.symm nl)
  have K15 := Keep.trans K13 Kc15 (own_memc (mw 1 rfl) own_memn)
  refine g_aloadN X15 hx (D d33_268) rfl rfl ?_
  refine g_dup X15 hx (D d33_269) rfl ?_
  refine g_getF X15 hx hZ hown (Wd98 hw) (rfl : T15.heap = T15.heap) O_a1_15.2.2.2.2 (D d33_270) (fun T16 X16 e16 => ?_)
  refine g_iconst X16 hx (1 : Int32) (D d33_273) (by decide) ?_
  refine g_iadd X16 hx (D d33_274) ?_
  refine g_putF X16 hx hZ hown (Wd98 hw) e16 O_a1_15.2.2.2.2 O_a1_15.1 (Or.inl (Wd99 hw)) (Wd2 hw) fd_0 rfl rfl (D d33_275) (fun T17 h17 X17 e17 W17 => ?_)
  have N17 := Fr.snoc X17 N15 g_a1
  have O_a1_17 := R_MP_set_modCount hw W17 O_a1_15
  have O_b10_0_17 := R_ND_other W17 O_b10_0_15 ne_a1_b10_0.symm
  have O_a4_17 := R_ND_other W17 Rk15_0 ne_a1_a4.symm
  have K17 := Keep.wr K15 W17 (mw 0 rfl)
  refine g_null X17 hx (D d33_278) ?_
  exact own_retA X17 hx hret hlk rfl rfl (D d33_279) (by decide) (by decide) (by rw [e17]; exact ⟨b10_0, rfl, N17, K17, sz_b10_0, O_a1_17, O_a4_17, O_b10_0_17⟩)
theorem rm_put_86 (hw : HW a0 Z) (a1 a2 : Addr) (a3 a4 : Addr) (i1 i2 : Int32) (a5 a6 a7 : Addr) (i3 : Int32) (a8 a9 : Addr) (h0 : Heap) (n0 : Nat) (Z0 : n0 ≤ h0.size) (O_a1 : R_MP Z h0 a1 .null (.ref a4) (.int 2) (.int i1)) (O_a2 : R_IN Z h0 a2 (.int i2)) (O_a4 : R_ND Z h0 a4 (.ref a5) (.ref a6) .null (.ref a7) .null (.int 0)) (O_a5 : R_IN Z h0 a5 (.int i3)) (O_a7 : R_ND Z h0 a7 (.ref a8) (.ref a9) .null .null (.ref a4) (.int (-2147483648))) (ne_a1_a4 : a1 ≠ a4) (g_a1 : n0 ≤ a1) (g_a4 : n0 ≤ a4) (hk0 : i2 < i3) :
    Ctr l Y20 B19 4 (some F3_) [] (rmk 5 1 6 79) Z #[(.ref a1), (.ref a2), (.ref a3)] h0 (fun v h L => ∃ f1, v = some .null ∧ Fr n0 L ∧ Keep h0 h [a1, a4] ∧ h0.size ≤ f1 ∧ R_MP Z h a1 .null (.ref a4) (.int 3) (.int (i1 + (1 : Int32))) ∧ R_ND Z h a4 (.ref a5) (.ref a6) (.ref f1) (.ref a7) .null (.int 1) ∧ R_ND Z h f1 (.ref a2) (.ref a3) .null .null (.ref a4) (.int (-2147483648))) := by
  refine own_enter pn_2 (fun p e s m below meth c s₁ hx hby hml hown hnm hret hlk hZ X0 e0 => ?_)
  have N0 := Fr.nil n0
  have K0 := Keep.refl h0 [a1, a4]
  rw [ef_7_RRR m _ _ _]
  refine g_aloadN X0 hx (hb hby d7_0) rfl rfl ?_
  refine g_aloadN X0 hx (hb hby d7_1) rfl rfl ?_
  refine g_aloadN X0 hx (hb hby d7_2) rfl rfl ?_
  refine g_PH X0 hx hZ hown (lk18 hw) (rm_addIfAbsent_87 hw a1 a2 a3 a4 i1 i2 a5 a6 a7 i3 a8 a9 h0 n0 Z0 O_a1 O_a2 O_a4 O_a5 O_a7 ne_a1_a4 g_a1 g_a4 hk0) e0 O_a1.1 (hb hby d7_3) hml.symm rfl rfl (Nat.le_refl _) (by decide) (fun v1 T1 L1 X1 q1 => ?_)
  obtain ⟨b1_0, rfl, M1, Kc1, zb1_0, Rk1_0, Rk1_1, Rk1_2⟩ := q1
  have N1 := Fr.app N0 M1
  have sz_b1_0 : h0.size ≤ b1_0 := Nat.le_trans K0.1 zb1_0
  have K1 := Keep.trans K0 Kc1 (own_memc (mw 0 rfl) (own_memc (mw 1 rfl) own_memn))
  refine g_astoreN X1 hx #[vr a1, vr a2, vr a3, vn] (hb hby d7_6) rfl rfl ?_
  refine g_aloadN X1 hx (hb hby d7_7) rfl rfl ?_
  refine g_nonnullNo X1 hx (hb hby d7_8) ?_
  refine g_null X1 hx (hb hby d7_11) ?_
  refine g_goto X1 hx 21 (hb hby d7_12) (by decide) (by decide) ?_
  exact own_retA X1 hx hret hlk rfl rfl (hb hby d7_21) (by decide) (by decide) (by rw [(rfl : T1.heap = T1.heap)]; exact ⟨b1_0, rfl, N1, K1, sz_b1_0, Rk1_0, Rk1_1, Rk1_2⟩)
theorem rm_addIfAbsent_91 (hw : HW a0 Z) (a1 a2 : Addr) (a3 a4 : Addr) (i1 i2 : Int32) (a5 a6 a7 : Addr) (i3 : Int32) (a8 a9 : Addr) (h0 : Heap) (n0 : Nat) (Z0 : n0 ≤ h0.size) (O_a1 : R_MP Z h0 a1 .null (.ref a4) (.int 2) (.int i1)) (O_a2 : R_IN Z h0 a2 (.int i2)) (O_a4 : R_ND Z h0 a4 (.ref a5) (.ref a6) .null (.ref a7) .null (.int 0)) (O_a5 : R_IN Z h0 a5 (.int i3)) (O_a7 : R_ND Z h0 a7 (.ref a8) (.ref a9) .null .null (.ref a4) (.int (-2147483648))) (hk0 : ¬ (i2 < i3)) (hk1 : i2 = i3) :
    CtrH l Y19 B18 15 (some F1_) [(71, 122, 210, 0), (137, 195, 210, 0), (210, 212, 210, 0)] (rmk 4 0 0 53) Z #[(.ref a1), (.ref a2), (.ref a3)] h0 (fun v h L => v = some (.ref a4) ∧ Fr n0 L ∧ h = h0) := by
  refine own_enterH pn_2 (fun p e s m below meth c s₁ hx hby hml hown hnm hret hlk hZ X0 e0 => ?_)
  have D {q : Nat} {r} (z : decode B18 q = r) : decode c.code q = r := hb hby z
  have N0 := Fr.nil n0
  have K0 := Keep.refl h0 []
  rw [ef_33_RRR m _ _ _]
  refine g_aloadN X0 hx (D d33_0) rfl rfl ?_
  refine g_getF X0 hx hZ hown (Wd25 hw) e0 O_a1.2.2.1 (D d33_1) (fun T1 X1 e1 => ?_)
  refine g_nonnullYes X1 hx 50 (D d33_4) (by decide) (by decide) ?_
  refine g_null X1 hx (D d33_50) ?_
  refine g_astoreN X1 hx #[vr a1, vr a2, vr a3, vn, vu, vu, vu, vu, vu, vu, vu, vu, vu, vu, vu] (D d33_51) rfl rfl ?_
  refine g_iconst X1 hx (0 : Int32) (D d33_52) (by decide) ?_
  refine g_istore X1 hx #[vr a1, vr a2, vr a3, vn, vi 0, vu, vu, vu, vu, vu, vu, vu, vu, vu, vu] (D d33_53) rfl ?_
  refine g_aloadN X1 hx (D d33_55) rfl rfl ?_
  refine g_getF X1 hx hZ hown (Wd25 hw) e1 O_a1.2.2.1 (D d33_56) (fun T2 X2 e2 => ?_)
  refine g_astore X2 hx #[vr a1, vr a2, vr a3, vn, vi 0, vr a4, vu, vu, vu, vu, vu, vu, vu, vu, vu] (D d33_59) rfl rfl ?_
  refine g_aload X2 hx (D d33_61) rfl rfl ?_
  refine g_getF X2 hx hZ hown (Wd100 hw) e2 O_a4.2.1 (D d33_63) (fun T3 X3 e3 => ?_)
  refine g_astore X3 hx #[vr a1, vr a2, vr a3, vn, vi 0, vr a4, vr a5, vu, vu, vu, vu, vu, vu, vu, vu] (D d33_66) rfl rfl ?_
  refine g_null X3 hx (D d33_68) ?_
  refine g_astore X3 hx #[vr a1, vr a2, vr a3, vn, vi 0, vr a4, vr a5, vn, vu, vu, vu, vu, vu, vu, vu] (D d33_69) rfl rfl ?_
  refine g_aload X3 hx (D d33_71) rfl rfl ?_
  refine g_nullNo X3 hx (D d33_73) ?_
  refine g_aload X3 hx (D d33_76) rfl rfl ?_
  refine g_getF X3 hx hZ hown (Wd101 hw) e3 O_a4.2.2.2.1 (D d33_78) (fun T4 X4 e4 => ?_)
  refine g_astore X4 hx #[vr a1, vr a2, vr a3, vn, vi 0, vr a4, vr a5, vn, vn, vu, vu, vu, vu, vu, vu] (D d33_81) rfl rfl ?_
  refine g_aload X4 hx (D d33_83) rfl rfl ?_
  refine g_getF X4 hx hZ hown (Wd103 hw) e4 O_a4.2.2.2.2.1 (D d33_85) (fun T5 X5 e5 => ?_)
  refine g_astore X5 hx #[vr a1, vr a2, vr a3, vn, vi 0, vr a4, vr a5, vn, vn, vr a7, vu, vu, vu, vu, vu] (D d33_88) rfl rfl ?_
  refine g_aload X5 hx (D d33_90) rfl rfl ?_
  refine g_S X5 hx hZ hown (lk6 hw) (rm_keyOf_12 hw  h0 n0 Z0 ) e5 (D d33_92) hml.symm rfl rfl (Nat.le_refl _) (by decide) (fun v6 T6 L6 X6 q6 => ?_)
  obtain ⟨rfl, M6, e6⟩ := q6
  have N6 := Fr.app N0 M6
  refine g_astore X6 hx #[vr a1, vr a2, vr a3, vn, vi 0, vr a4, vr a5, vn, vn, vr a7, vn, vu, vu, vu, vu] (D d33_95) rfl rfl ?_
  refine g_aload X6 hx (D d33_97) rfl rfl ?_
  refine g_S X6 hx hZ hown (lk6 hw) (rm_keyOf_44 hw a7 a8 a9 a4 h0 n0 Z0 O_a7) e6 (D d33_99) hml.symm rfl rfl (Nat.le_refl _) (by decide) (fun v7 T7 L7 X7 q7 => ?_)
  obtain ⟨rfl, M7, e7⟩ := q7
  have N7 := Fr.app N6 M7
  refine g_astore X7 hx #[vr a1, vr a2, vr a3, vn, vi 0, vr a4, vr a5, vn, vn, vr a7, vn, vr a8, vu, vu, vu] (D d33_102) rfl rfl ?_
  refine g_aloadN X7 hx (D d33_104) rfl rfl ?_
  refine g_aloadN X7 hx (D d33_105) rfl rfl ?_
  refine g_aload X7 hx (D d33_106) rfl rfl ?_
  refine g_V X7 hx hZ hown (lk10 hw) (rm_compare_62 hw a1 a2 a5 a4 i1 i2 i3 h0 n0 Z0 O_a1 O_a2 O_a5 hk0 hk1) e7 O_a1.1 (D d33_108) hml.symm rfl rfl (Nat.le_refl _) (by decide) (fun v8 T8 L8 X8 q8 => ?_)
  obtain ⟨rfl, M8, e8⟩ := q8
  have N8 := Fr.app N7 M8
  refine g_istore X8 hx #[vr a1, vr a2, vr a3, vn, vi 0, vr a4, vr a5, vn, vn, vr a7, vn, vr a8, vi 0, vu, vu] (D d33_111) rfl ?_
  refine g_iload X8 hx (D d33_113) rfl ?_
  refine g_ifNo X8 hx (D d33_115) ((if0 _ _).trans (teq ((by decide) : (0 : Int32) = (0 : Int32))).2) ?_
  refine g_aload X8 hx (D d33_118) rfl rfl ?_
  refine g_astore X8 hx #[vr a1, vr a2, vr a3, vn, vi 0, vr a4, vr a5, vn, vn, vr a7, vn, vr a8, vi 0, vr a4, vu] (D d33_120) rfl rfl ?_
  refine g_aload X8 hx (D d33_122) rfl rfl ?_
  refine g_nonnullNo X8 hx (D d33_124) ?_
  refine g_aloadN X8 hx (D d33_127) rfl rfl ?_
  refine g_iload X8 hx (D d33_128) rfl ?_
  refine g_iconst X8 hx (-1 : Int32) (D d33_130) (by decide) ?_
  refine g_S X8 hx hZ hown (lk20 hw) (rm_countPlace_30 hw  h0 n0 Z0 ) e8 (D d33_131) hml.symm rfl rfl (Nat.le_refl _) (by decide) (fun v9 T9 L9 X9 q9 => ?_)
  obtain ⟨rfl, M9, e9⟩ := q9
  have N9 := Fr.app N8 M9
  refine g_aload X9 hx (D d33_134) rfl rfl ?_
  exact own_retA X9 hx hret hlk rfl rfl (D d33_136) (by decide) (by decide) ⟨rfl, N9, e9⟩
theorem rm_setValue_93 (hw : HW a0 Z) (a1 a2 : Addr) (a3 a4 a5 : Addr) (h0 : Heap) (n0 : Nat) (Z0 : n0 ≤ h0.size) (O_a1 : R_ND Z h0 a1 (.ref a3) (.ref a4) .null (.ref a5) .null (.int 0)) (g_a1 : n0 ≤ a1) :
    Ctr l Y22 B21 3 (some F3_) [] (rmk 0 0 0 0) Z #[(.ref a1), (.ref a2)] h0 (fun v h L => v = some (.ref a4) ∧ Fr n0 L ∧ Keep h0 h [a1] ∧ R_ND Z h a1 (.ref a3) (.ref a2) .null (.ref a5) .null (.int 0)) := by
  refine own_enter pn_3 (fun p e s m below meth c s₁ hx hby hml hown hnm hret hlk hZ X0 e0 => ?_)
  have N0 := Fr.nil n0
  have K0 := Keep.refl h0 [a1]
  rw [ef_31_RR m _ _]
  refine g_aloadN X0 hx (hb hby d31_0) rfl rfl ?_
  refine g_getF X0 hx hZ hown (Wd87 hw) e0 O_a1.2.2.1 (hb hby d31_1) (fun T1 X1 e1 => ?_)
  refine g_astoreN X1 hx #[vr a1, vr a2, vr a4] (hb hby d31_4) rfl rfl ?_
  refine g_aloadN X1 hx (hb hby d31_5) rfl rfl ?_
  refine g_aloadN X1 hx (hb hby d31_6) rfl rfl ?_
  refine g_putF X1 hx hZ hown (Wd87 hw) e1 O_a1.2.2.1 O_a1.1 (Or.inl (Wd88 hw)) (Wd76 hw) fd_1 rfl rfl (hb hby d31_7) (fun T2 h2 X2 e2 W2 => ?_)
  have N2 := Fr.snoc X2 N0 g_a1
  have O_a1_2 := R_ND_set_value hw W2 O_a1
  have K2 := Keep.wr K0 W2 (mw 0 rfl)
  refine g_aloadN X2 hx (hb hby d31_10) rfl rfl ?_
  exact own_retA X2 hx hret hlk rfl rfl (hb hby d31_11) (by decide) (by decide) (by rw [e2]; exact ⟨rfl, N2, K2, O_a1_2⟩)
theorem rm_replaceValue_92 (hw : HW a0 Z) (a1 a2 : Addr) (a3 a4 : Addr) (a5 a6 : Addr) (h0 : Heap) (n0 : Nat) (Z0 : n0 ≤ h0.size) (O_a2 : R_ND Z h0 a2 (.ref a4) (.ref a5) .null (.ref a6) .null (.int 0)) (g_a2 : n0 ≤ a2) :
    Ctr l Y23 B22 3 (some F3_) [] (rmk 1 0 0 14) Z #[(.ref a1), (.ref a2), (.ref a3)] h0 (fun v h L => v = some (.ref a5) ∧ Fr n0 L ∧ Keep h0 h [a2] ∧ R_ND Z h a2 (.ref a4) (.ref a3) .null (.ref a6) .null (.int 0)) := by
  refine own_enter pn_2 (fun p e s m below meth c s₁ hx hby hml hown hnm hret hlk hZ X0 e0 => ?_)
  have N0 := Fr.nil n0
  have K0 := Keep.refl h0 [a2]
  rw [ef_30_RRR m _ _ _]
  refine g_aloadN X0 hx (hb hby d30_0) rfl rfl ?_
  refine g_aloadN X0 hx (hb hby d30_1) rfl rfl ?_
  refine g_V X0 hx hZ hown (lk21 hw) (rm_setValue_93 hw a2 a3 a4 a5 a6 h0 n0 Z0 O_a2 g_a2) e0 O_a2.1 (hb hby d30_2) hml.symm rfl rfl (Nat.le_refl _) (by decide) (fun v1 T1 L1 X1 q1 => ?_)
  obtain ⟨rfl, M1, Kc1, Rk1_0⟩ := q1
  have N1 := Fr.app N0 M1
  have K1 := Keep.trans K0 Kc1 (own_memc (mw 0 rfl) own_memn)
  exact own_retA X1 hx hret hlk rfl rfl (hb hby d30_5) (by decide) (by decide) (by rw [(rfl : T1.heap = T1.heap)]; exact ⟨rfl, N1, K1, Rk1_0⟩)
theorem rm_put_90 (hw : HW a0 Z) (a1 a2 : Addr) (a3 a4 : Addr) (i1 i2 : Int32) (a5 a6 a7 : Addr) (i3 : Int32) (a8 a9 : Addr) (h0 : Heap) (n0 : Nat) (Z0 : n0 ≤ h0.size) (O_a1 : R_MP Z h0 a1 .null (.ref a4) (.int 2) (.int i1)) (O_a2 : R_IN Z h0 a2 (.int i2)) (O_a4 : R_ND Z h0 a4 (.ref a5) (.ref a6) .null (.ref a7) .null (.int 0)) (O_a5 : R_IN Z h0 a5 (.int i3)) (O_a7 : R_ND Z h0 a7 (.ref a8) (.ref a9) .null .null (.ref a4) (.int (-2147483648))) (g_a4 : n0 ≤ a4) (hk0 : ¬ (i2 < i3)) (hk1 : i2 = i3) :
    Ctr l Y20 B19 4 (some F3_) [] (rmk 5 0 0 79) Z #[(.ref a1), (.ref a2), (.ref a3)] h0 (fun v h L => v = some (.ref a6) ∧ Fr n0 L ∧ Keep h0 h [a4] ∧ R_ND Z h a4 (.ref a5) (.ref a3) .null (.ref a7) .null (.int 0)) := by
  refine own_enter pn_2 (fun p e s m below meth c s₁ hx hby hml hown hnm hret hlk hZ X0 e0 => ?_)
  have N0 := Fr.nil n0
  have K0 := Keep.refl h0 [a4]
  rw [ef_7_RRR m _ _ _]
  refine g_aloadN X0 hx (hb hby d7_0) rfl rfl ?_
  refine g_aloadN X0 hx (hb hby d7_1) rfl rfl ?_
  refine g_aloadN X0 hx (hb hby d7_2) rfl rfl ?_
  refine g_PH X0 hx hZ hown (lk18 hw) (rm_addIfAbsent_91 hw a1 a2 a3 a4 i1 i2 a5 a6 a7 i3 a8 a9 h0 n0 Z0 O_a1 O_a2 O_a4 O_a5 O_a7 hk0 hk1) e0 O_a1.1 (hb hby d7_3) hml.symm rfl rfl (Nat.le_refl _) (by decide) (fun v1 T1 L1 X1 q1 => ?_)
  obtain ⟨rfl, M1, e1⟩ := q1
  have N1 := Fr.app N0 M1
  refine g_astoreN X1 hx #[vr a1, vr a2, vr a3, vr a4] (hb hby d7_6) rfl rfl ?_
  refine g_aloadN X1 hx (hb hby d7_7) rfl rfl ?_
  refine g_nonnullYes X1 hx 15 (hb hby d7_8) (by decide) (by decide) ?_
  refine g_aloadN X1 hx (hb hby d7_15) rfl rfl ?_
  refine g_aloadN X1 hx (hb hby d7_16) rfl rfl ?_
  refine g_aloadN X1 hx (hb hby d7_17) rfl rfl ?_
  refine g_V X1 hx hZ hown (lk22 hw) (rm_replaceValue_92 hw a1 a4 a3 a5 a6 a7 h0 n0 Z0 O_a4 g_a4) e1 O_a1.1 (hb hby d7_18) hml.symm rfl rfl (Nat.le_refl _) (by decide) (fun v2 T2 L2 X2 q2 => ?_)
  obtain ⟨rfl, M2, Kc2, Rk2_0⟩ := q2
  have N2 := Fr.app N1 M2
  have K2 := Keep.trans K0 Kc2 (own_memc (mw 0 rfl) own_memn)
  exact own_retA X2 hx hret hlk rfl rfl (hb hby d7_21) (by decide) (by decide) (by rw [(rfl : T2.heap = T2.heap)]; exact ⟨rfl, N2, K2, Rk2_0⟩)
theorem d20_33 : decode B23 33 = .ok (.aload_n 3, 1) := by decide +kernel
theorem d20_34 : decode B23 34 = .ok (.aload_n 2, 1) := by decide +kernel
theorem d20_35 : decode B23 35 = .ok (.putfield 214, 3) := by decide +kernel
theorem rm_replaceInParent_98 (hw : HW a0 Z) (a1 a2 : Addr) (a3 a4 : Addr) (a5 a6 : Addr) (a7 a8 : Addr) (a9 a10 : Addr) (i2 i3 i4 : Int32) (h0 : Heap) (n0 : Nat) (Z0 : n0 ≤ h0.size) (O_a2 : R_ND Z h0 a2 (.ref a5) (.ref a6) .null .null (.ref a4) (.int (-2147483647))) (O_a3 : R_ND Z h0 a3 (.ref a7) (.ref a8) .null .null (.ref a2) (.int (-2147483648))) (O_a4 : R_ND Z h0 a4 (.ref a9) (.ref a10) .null (.ref a2) .null (.int 0)) (ne_a3_a4 : a3 ≠ a4) (g_a3 : n0 ≤ a3) (g_a4 : n0 ≤ a4) (hk0 : ¬ (i3 < i4)) (hk1 : ¬ (i3 = i4)) (hk2 : i3 < i2) :
    Ctr l Y24 B23 4 none [] (rmk 0 0 0 0) Z #[(.ref a1), (.ref a2), (.ref a3)] h0 (fun v h L => v = none ∧ Fr n0 L ∧ Keep h0 h [a3, a4] ∧ R_ND Z h a3 (.ref a7) (.ref a8) .null .null (.ref a4) (.int (-2147483648)) ∧ R_ND Z h a4 (.ref a9) (.ref a10) .null (.ref a3) .null (.int 0)) := by
  refine own_enter pn_2 (fun p e s m below meth c s₁ hx hby hml hown hnm hret hlk hZ X0 e0 => ?_)
  have N0 := Fr.nil n0
  have K0 := Keep.refl h0 [a3, a4]
  rw [ef_20_RRR m _ _ _]
  refine g_aloadN X0 hx (hb hby d20_0) rfl rfl ?_
  refine g_getF X0 hx hZ hown (Wd117 hw) e0 O_a2.2.2.2.2.2.1 (hb hby d20_1) (fun T1 X1 e1 => ?_)
  refine g_astoreN X1 hx #[vr a1, vr a2, vr a3, vr a4] (hb hby d20_4) rfl rfl ?_
  refine g_aloadN X1 hx (hb hby d20_5) rfl rfl ?_
  refine g_nonnullYes X1 hx 17 (hb hby d20_6) (by decide) (by decide) ?_
  refine g_aloadN X1 hx (hb hby d20_17) rfl rfl ?_
  refine g_aloadN X1 hx (hb hby d20_18) rfl rfl ?_
  refine g_getF X1 hx hZ hown (Wd101 hw) e1 O_a4.2.2.2.1 (hb hby d20_19) (fun T2 X2 e2 => ?_)
  refine g_acmp X2 hx 33 false rfl rfl (hb hby d20_22) (decide_eq_false nofun) (by decide) (by decide) ?_
  refine g_aloadN X2 hx (hb hby d20_33) rfl rfl ?_
  refine g_aloadN X2 hx (hb hby d20_34) rfl rfl ?_
  refine g_putF X2 hx hZ hown (Wd103 hw) e2 O_a4.2.2.2.2.1 O_a4.1 (Or.inl (Wd104 hw)) (Wd76 hw) fd_2 rfl rfl (hb hby d20_35) (fun T3 h3 X3 e3 W3 => ?_)
  have N3 := Fr.snoc X3 N0 g_a4
  have O_a3_3 := R_ND_other W3 O_a3 ne_a3_a4
  have O_a4_3 := R_ND_set_right hw W3 O_a4
  have K3 := Keep.wr K0 W3 (mw 1 rfl)
  refine g_aloadN X3 hx (hb hby d20_38) rfl rfl ?_
  refine g_nullNo X3 hx (hb hby d20_39) ?_
  refine g_aloadN X3 hx (hb hby d20_42) rfl rfl ?_
  refine g_aloadN X3 hx (hb hby d20_43) rfl rfl ?_
  refine g_putF X3 hx hZ hown (Wd117 hw) e3 O_a3_3.2.2.2.2.2.1 O_a3_3.1 (Or.inl (Wd90 hw)) (Wd76 hw) fd_2 rfl rfl (hb hby d20_44) (fun T4 h4 X4 e4 W4 => ?_)
  have N4 := Fr.snoc X4 N3 g_a3
  have O_a3_4 := R_ND_set_parent hw W4 O_a3_3
  have O_a4_4 := R_ND_other W4 O_a4_3 ne_a3_a4.symm
  have K4 := Keep.wr K3 W4 (mw 0 rfl)
  exact own_retV X4 hx hret hlk (hb hby d20_47) (by decide) (by decide) (by rw [e4]; exact ⟨rfl, N4, K4, O_a3_4, O_a4_4⟩)
theorem rm_leftCount_99 (hw : HW a0 Z) (a1 a2 : Addr) (a3 a4 a5 : Addr) (h0 : Heap) (n0 : Nat) (Z0 : n0 ≤ h0.size) (O_a1 : R_ND Z h0 a1 (.ref a2) (.ref a3) .null (.ref a4) (.ref a5) (.int (-2147483648))) :
    Ctr l Y25 B24 1 (some FieldType.int) [] (rmk 0 0 0 0) Z #[(.ref a1)] h0 (fun v h L => v = some (.int 0) ∧ Fr n0 L ∧ h = h0) := by
  refine own_enter pn_2 (fun p e s m below meth c s₁ hx hby hml hown hnm hret hlk hZ X0 e0 => ?_)
  have N0 := Fr.nil n0
  have K0 := Keep.refl h0 []
  rw [ef_21_R m _]
  refine g_aloadN X0 hx (hb hby d21_0) rfl rfl ?_
  refine g_getF X0 hx hZ hown (Wd94 hw) e0 O_a1.2.2.2.2.2.2 (hb hby d21_1) (fun T1 X1 e1 => ?_)
  refine g_ldcw X1 hx hZ hown (Wd95 hw) (hb hby d21_4) ?_
  refine g_iand X1 hx (hb hby d21_7) ?_
  show Go p e below (T1.setTop (mkF m 8 #[vr a1] [(.int ((-2147483648 : Int32) &&& (2147483647 : Int32)))])) _
  rw [show ((-2147483648 : Int32) &&& (2147483647 : Int32)) = (0 : Int32) from by decide]
  exact own_retI X1 hx hret hlk (hb hby d21_8) (by decide) (by decide) ⟨rfl, N0, e1⟩
theorem rm_addToLeftCount_100 (hw : HW a0 Z) (a1 a2 : Addr) (a3 a4 : Addr) (h0 : Heap) (n0 : Nat) (Z0 : n0 ≤ h0.size) (O_a1 : R_ND Z h0 a1 (.ref a2) (.ref a3) .null .null (.ref a4) (.int (-2147483647))) (g_a1 : n0 ≤ a1) :
    Ctr l Y12 B11 2 none [] (rmk 0 0 0 0) Z #[(.ref a1), (.int (-1))] h0 (fun v h L => v = none ∧ Fr n0 L ∧ Keep h0 h [a1] ∧ R_ND Z h a1 (.ref a2) (.ref a3) .null .null (.ref a4) (.int (-2147483648))) := by
  refine own_enter pn_2 (fun p e s m below meth c s₁ hx hby hml hown hnm hret hlk hZ X0 e0 => ?_)
  have N0 := Fr.nil n0
  have K0 := Keep.refl h0 [a1]
  rw [ef_22_RI m _ _]
  refine g_aloadN X0 hx (hb hby d22_0) rfl rfl ?_
  refine g_dup X0 hx (hb hby d22_1) rfl ?_
  refine g_getF X0 hx hZ hown (Wd94 hw) e0 O_a1.2.2.2.2.2.2 (hb hby d22_2) (fun T1 X1 e1 => ?_)
  refine g_iloadN X1 hx (hb hby d22_5) rfl ?_
  refine g_iadd X1 hx (hb hby d22_6) ?_
  show Go p e below (T1.setTop (mkF m 7 #[vr a1, vi (-1)] [(.int ((-2147483647 : Int32) + (-1 : Int32))), (.ref a1)])) _
  rw [show ((-2147483647 : Int32) + (-1 : Int32)) = (-2147483648 : Int32) from by decide]
  refine g_putF X1 hx hZ hown (Wd94 hw) e1 O_a1.2.2.2.2.2.2 O_a1.1 (Or.inl (Wd84 hw)) (Wd76 hw) fd_0 rfl rfl (hb hby d22_7) (fun T2 h2 X2 e2 W2 => ?_)
  have N2 := Fr.snoc X2 N0 g_a1
  have O_a1_2 := R_ND_set_redAndLeftCount hw W2 O_a1
  have K2 := Keep.wr K0 W2 (mw 0 rfl)
  exact own_retV X2 hx hret hlk (hb hby d22_10) (by decide) (by decide) (by rw [e2]; exact ⟨rfl, N2, K2, O_a1_2⟩)
theorem rm_rotateRight_97 (hw : HW a0 Z) (a1 a2 a3 : Addr) (i1 : Int32) (a4 a5 : Addr) (a6 a7 a8 : Addr) (i2 : Int32) (a9 a10 : Addr) (i3 i4 : Int32) (h0 : Heap) (n0 : Nat) (Z0 : n0 ≤ h0.size) (O_a1 : R_MP Z h0 a1 .null (.ref a3) (.int 3) (.int i1)) (O_a2 : R_ND Z h0 a2 (.ref a4) (.ref a5) (.ref a6) .null (.ref a3) (.int (-2147483647))) (O_a3 : R_ND Z h0 a3 (.ref a7) (.ref a8) .null (.ref a2) .null (.int 0)) (O_a6 : R_ND Z h0 a6 (.ref a9) (.ref a10) .null .null (.ref a2) (.int (-2147483648))) (ne_a1_a2 : a1 ≠ a2) (ne_a1_a3 : a1 ≠ a3) (ne_a1_a6 : a1 ≠ a6) (ne_a2_a3 : a2 ≠ a3) (ne_a2_a6 : a2 ≠ a6) (ne_a3_a6 : a3 ≠ a6) (g_a2 : n0 ≤ a2) (g_a3 : n0 ≤ a3) (g_a6 : n0 ≤ a6) (hk0 : ¬ (i4 < i3)) (hk1 : ¬ (i4 = i3)) (hk2 : i4 < i2) :
    Ctr l Y27 B26 3 none [] (rmk 1 0 0 15) Z #[(.ref a1), (.ref a2)] h0 (fun v h L => v = none ∧ Fr n0 L ∧ Keep h0 h [a2, a3, a6] ∧ R_ND Z h a2 (.ref a4) (.ref a5) .null .null (.ref a6) (.int (-2147483648)) ∧ R_ND Z h a3 (.ref a7) (.ref a8) .null (.ref a6) .null (.int 0) ∧ R_ND Z h a6 (.ref a9) (.ref a10) .null (.ref a2) (.ref a3) (.int (-2147483648))) := by
  refine own_enter pn_2 (fun p e s m below meth c s₁ hx hby hml hown hnm hret hlk hZ X0 e0 => ?_)
  have D {q : Nat} {r} (z : decode B26 q = r) : decode c.code q = r := hb hby z
  have N0 := Fr.nil n0
  have K0 := Keep.refl h0 [a2, a3, a6]
  rw [ef_32_RR m _ _]
  refine g_aloadN X0 hx (D d32_0) rfl rfl ?_
  refine g_getF X0 hx hZ hown (Wd101 hw) e0 O_a2.2.2.2.1 (D d32_1) (fun T1 X1 e1 => ?_)
  refine g_astoreN X1 hx #[vr a1, vr a2, vr a6] (D d32_4) rfl rfl ?_
  refine g_aloadN X1 hx (D d32_5) rfl rfl ?_
  refine g_aloadN X1 hx (D d32_6) rfl rfl ?_
  refine g_getF X1 hx hZ hown (Wd103 hw) e1 O_a6.2.2.2.2.1 (D d32_7) (fun T2 X2 e2 => ?_)
  refine g_putF X2 hx hZ hown (Wd101 hw) e2 O_a2.2.2.2.1 O_a2.1 (Or.inl (Wd102 hw)) (Wd76 hw) fd_2 rfl rfl (D d32_10) (fun T3 h3 X3 e3 W3 => ?_)
  have N3 := Fr.snoc X3 N0 g_a2
  have O_a1_3 := R_MP_other W3 O_a1 ne_a1_a2
  have O_a2_3 := R_ND_set_left hw W3 O_a2
  have O_a3_3 := R_ND_other W3 O_a3 ne_a2_a3.symm
  have O_a6_3 := R_ND_other W3 O_a6 ne_a2_a6.symm
  have Z3 : n0 ≤ h3.size := Nat.le_trans Z0 (Nat.le_of_eq W3.size.symm)
  have K3 := Keep.wr K0 W3 (mw 0 rfl)
  refine g_aloadN X3 hx (D d32_13) rfl rfl ?_
  refine g_getF X3 hx hZ hown (Wd103 hw) e3 O_a6_3.2.2.2.2.1 (D d32_14) (fun T4 X4 e4 => ?_)
  refine g_nullYes X4 hx 28 (D d32_17) (by decide) (by decide) ?_
  refine g_aloadN X4 hx (D d32_28) rfl rfl ?_
  refine g_aloadN X4 hx (D d32_29) rfl rfl ?_
  refine g_aloadN X4 hx (D d32_30) rfl rfl ?_
  refine g_P X4 hx hZ hown (lk23 hw) (rm_replaceInParent_98 hw a1 a2 a6 a3 a4 a5 a9 a10 a7 a8 i2 i4 i3 h3 n0 Z3 O_a2_3 O_a6_3 O_a3_3 ne_a3_a6.symm g_a6 g_a3 hk0 hk1 hk2) e4 O_a1_3.1 (D d32_31) hml.symm rfl rfl (Nat.le_refl _) (by decide) (fun v5 T5 L5 X5 q5 => ?_)
  obtain ⟨rfl, M5, Kc5, Rk5_0, Rk5_1⟩ := q5
  have N5 := Fr.app N3 M5
  have O_a1_5 := R_MP_keep O_a1_3 Kc5 (own_nin ne_a1_a6 (own_nin ne_a1_a3 nl))
  have O_a2_5 := R_ND_keep O_a2_3 Kc5 (own_nin ne_a2_a6 (own_nin ne_a2_a3 nl))
  have K5 := Keep.trans K3 Kc5 (own_memc (mw 2 rfl) (own_memc (mw 1 rfl) own_memn))
  have Z5 : n0 ≤ T5.heap.size := Nat.le_trans Z3 Kc5.1
  refine g_aloadN X5 hx (D d32_34) rfl rfl ?_
  refine g_aloadN X5 hx (D d32_35) rfl rfl ?_
  refine g_putF X5 hx hZ hown (Wd103 hw) (rfl : T5.heap = T5.heap) Rk5_0.2.2.2.2.1 Rk5_0.1 (Or.inl (Wd104 hw)) (Wd76 hw) fd_2 rfl rfl (D d32_36) (fun T6 h6 X6 e6 W6 => ?_)
  have N6 := Fr.snoc X6 N5 g_a6
  have O_a1_6 := R_MP_other W6 O_a1_5 ne_a1_a6
  have O_a2_6 := R_ND_other W6 O_a2_5 ne_a2_a6
  have O_a6_6 := R_ND_set_right hw W6 Rk5_0
  have O_a3_6 := R_ND_other W6 Rk5_1 ne_a3_a6
  have Z6 : n0 ≤ h6.size := Nat.le_trans Z5 (Nat.le_of_eq W6.size.symm)
  have K6 := Keep.wr K5 W6 (mw 2 rfl)
  refine g_aloadN X6 hx (D d32_39) rfl rfl ?_
  refine g_aloadN X6 hx (D d32_40) rfl rfl ?_
  refine g_putF X6 hx hZ hown (Wd117 hw) e6 O_a2_6.2.2.2.2.2.1 O_a2_6.1 (Or.inl (Wd90 hw)) (Wd76 hw) fd_2 rfl rfl (D d32_41) (fun T7 h7 X7 e7 W7 => ?_)
  have N7 := Fr.snoc X7 N6 g_a2
  have O_a1_7 := R_MP_other W7 O_a1_6 ne_a1_a2
  have O_a2_7 := R_ND_set_parent hw W7 O_a2_6
  have O_a6_7 := R_ND_other W7 O_a6_6 ne_a2_a6.symm
  have O_a3_7 := R_ND_other W7 O_a3_6 ne_a2_a3.symm
  have Z7 : n0 ≤ h7.size := Nat.le_trans Z6 (Nat.le_of_eq W7.size.symm)
  have K7 := Keep.wr K6 W7 (mw 0 rfl)
  refine g_aloadN X7 hx (D d32_44) rfl rfl ?_
  refine g_aloadN X7 hx (D d32_45) rfl rfl ?_
  refine g_S X7 hx hZ hown (lk24 hw) (rm_leftCount_99 hw a6 a9 a10 a2 a3 h7 n0 Z7 O_a6_7) e7 (D d32_46) hml.symm rfl (rest := [(.ref a2)]) rfl (W := 1) (Nat.le_of_eq rfl) (by decide) (fun v8 T8 L8 X8 q8 => ?_)
  obtain ⟨rfl, M8, e8⟩ := q8
  have N8 := Fr.app N7 M8
  refine Go.mp (fun _ k => XS.ineg X8.here hx rfl (D d32_49) rfl k) ?_
  show Go p e below (T8.setTop (mkF m 50 #[vr a1, vr a2, vr a6] [(.int (-(0 : Int32))), (.ref a2)])) _
  refine g_iconst X8 hx (1 : Int32) (D d32_50) (by decide) ?_
  refine g_isub X8 hx (D d32_51) ?_
  show Go p e below (T8.setTop (mkF m 52 #[vr a1, vr a2, vr a6] [(.int ((-(0 : Int32)) - (1 : Int32))), (.ref a2)])) _
  rw [show ((-(0 : Int32)) - (1 : Int32)) = (-1 : Int32) from by decide]
  refine g_S X8 hx hZ hown (lk11 hw) (rm_addToLeftCount_100 hw a2 a4 a5 a6 h7 n0 Z7 O_a2_7 g_a2) e8 (D d32_52) hml.symm rfl rfl (Nat.le_refl _) (by decide) (fun v9 T9 L9 X9 q9 => ?_)
  obtain ⟨rfl, M9, Kc9, Rk9_0⟩ := q9
  have N9 := Fr.app N8 M9
  have O_a1_9 := R_MP_keep O_a1_7 Kc9 (own_nin ne_a1_a2 nl)
  have O_a6_9 := R_ND_keep O_a6_7 Kc9 (own_nin ne_a2_a6.symm nl)
  have O_a3_9 := R_ND_keep O_a3_7 Kc9 (own_nin ne_a2_a3.symm nl)
  have K9 := Keep.trans K7 Kc9 (own_memc (mw 0 rfl) own_memn)
  have Z9 : n0 ≤ T9.heap.size := Nat.le_trans Z7 Kc9.1
  refine g_aloadN X9 hx (D d32_55) rfl rfl ?_
  refine g_aloadN X9 hx (D d32_56) rfl rfl ?_
  refine g_V X9 hx hZ hown (lk25 hw) (rm_refresh_57 hw a1 a2 T9.heap n0 Z9 ) (rfl : T9.heap = T9.heap) O_a1_9.1 (D d32_57) hml.symm rfl rfl (Nat.le_refl _) (by decide) (fun v10 T10 L10 X10 q10 => ?_)
  obtain ⟨rfl, M10, e10⟩ := q10
  have N10 := Fr.app N9 M10
  refine g_aloadN X10 hx (D d32_60) rfl rfl ?_
  refine g_aloadN X10 hx (D d32_61) rfl rfl ?_
  refine g_V X10 hx hZ hown (lk25 hw) (rm_refresh_57 hw a1 a6 T9.heap n0 Z9 ) e10 O_a1_9.1 (D d32_62) hml.symm rfl rfl (Nat.le_refl _) (by decide) (fun v11 T11 L11 X11 q11 => ?_)
  obtain ⟨rfl, M11, e11⟩ := q11
  have N11 := Fr.app N10 M11
  exact own_retV X11 hx hret hlk (D d32_65) (by decide) (by decide) (by rw [e11]; exact ⟨rfl, N11, K9, Rk9_0, O_a3_9, O_a6_9⟩)
theorem rm_setRed_101 (hw : HW a0 Z) (a1 a2 : Addr) (a3 a4 a5 : Addr) (h0 : Heap) (n0 : Nat) (Z0 : n0 ≤ h0.size) (O_a1 : R_ND Z h0 a1 (.ref a2) (.ref a3) .null (.ref a4) (.ref a5) (.int (-2147483648))) (g_a1 : n0 ≤ a1) :
    Ctr l Y17 B16 2 none [] (rmk 0 0 0 0) Z #[(.ref a1), (.int 0)] h0 (fun v h L => v = none ∧ Fr n0 L ∧ Keep h0 h [a1] ∧ R_ND Z h a1 (.ref a2) (.ref a3) .null (.ref a4) (.ref a5) (.int 0)) := by
  refine own_enter pn_2 (fun p e s m below meth c s₁ hx hby hml hown hnm hret hlk hZ X0 e0 => ?_)
  have N0 := Fr.nil n0
  have K0 := Keep.refl h0 [a1]
  rw [ef_14_RI m _ _]
  refine g_aloadN X0 hx (hb hby d14_0) rfl rfl ?_
  refine g_iloadN X0 hx (hb hby d14_1) rfl ?_
  refine g_ifYes X0 hx 16 (hb hby d14_2) ((if0 _ _).trans (teq ((by decide) : (0 : Int32) = (0 : Int32))).1) (by decide) (by decide) ?_
  refine g_aloadN X0 hx (hb hby d14_16) rfl rfl ?_
  refine g_getF X0 hx hZ hown (Wd94 hw) e0 O_a1.2.2.2.2.2.2 (hb hby d14_17) (fun T1 X1 e1 => ?_)
  refine g_ldcw X1 hx hZ hown (Wd95 hw) (hb hby d14_20) ?_
  refine g_iand X1 hx (hb hby d14_23) ?_
  show Go p e below (T1.setTop (mkF m 24 #[vr a1, vi 0] [(.int ((-2147483648 : Int32) &&& (2147483647 : Int32))), (.ref a1)])) _
  rw [show ((-2147483648 : Int32) &&& (2147483647 : Int32)) = (0 : Int32) from by decide]
  refine g_putF X1 hx hZ hown (Wd94 hw) e1 O_a1.2.2.2.2.2.2 O_a1.1 (Or.inl (Wd84 hw)) (Wd76 hw) fd_0 rfl rfl (hb hby d14_24) (fun T2 h2 X2 e2 W2 => ?_)
  have N2 := Fr.snoc X2 N0 g_a1
  have O_a1_2 := R_ND_set_redAndLeftCount hw W2 O_a1
  have K2 := Keep.wr K0 W2 (mw 0 rfl)
  exact own_retV X2 hx hret hlk (hb hby d14_27) (by decide) (by decide) (by rw [e2]; exact ⟨rfl, N2, K2, O_a1_2⟩)
theorem rm_setRed_102 (hw : HW a0 Z) (a1 a2 : Addr) (a3 a4 : Addr) (h0 : Heap) (n0 : Nat) (Z0 : n0 ≤ h0.size) (O_a1 : R_ND Z h0 a1 (.ref a2) (.ref a3) .null (.ref a4) .null (.int 0)) (g_a1 : n0 ≤ a1) :
    Ctr l Y17 B16 2 none [] (rmk 0 0 0 0) Z #[(.ref a1), (.int 1)] h0 (fun v h L => v = none ∧ Fr n0 L ∧ Keep h0 h [a1] ∧ R_ND Z h a1 (.ref a2) (.ref a3) .null (.ref a4) .null (.int (-2147483648))) := by
  refine own_enter pn_2 (fun p e s m below meth c s₁ hx hby hml hown hnm hret hlk hZ X0 e0 => ?_)
  have N0 := Fr.nil n0
  have K0 := Keep.refl h0 [a1]
  rw [ef_14_RI m _ _]
  refine g_aloadN X0 hx (hb hby d14_0) rfl rfl ?_
  refine g_iloadN X0 hx (hb hby d14_1) rfl ?_
  refine g_ifNo X0 hx (hb hby d14_2) ((if0 _ _).trans (feq ((by decide) : ¬ ((1 : Int32) = (0 : Int32)))).1) ?_
  refine g_aloadN X0 hx (hb hby d14_5) rfl rfl ?_
  refine g_getF X0 hx hZ hown (Wd94 hw) e0 O_a1.2.2.2.2.2.2 (hb hby d14_6) (fun T1 X1 e1 => ?_)
  refine g_ldcw X1 hx hZ hown (Wd121 hw) (hb hby d14_9) ?_
  refine g_ior X1 hx (hb hby d14_12) ?_
  show Go p e below (T1.setTop (mkF m 13 #[vr a1, vi 1] [(.int ((0 : Int32) ||| (-2147483648 : Int32))), (.ref a1)])) _
  rw [show ((0 : Int32) ||| (-2147483648 : Int32)) = (-2147483648 : Int32) from by decide]
  refine g_goto X1 hx 24 (hb hby d14_13) (by decide) (by decide) ?_
  refine g_putF X1 hx hZ hown (Wd94 hw) e1 O_a1.2.2.2.2.2.2 O_a1.1 (Or.inl (Wd84 hw)) (Wd76 hw) fd_0 rfl rfl (hb hby d14_24) (fun T2 h2 X2 e2 W2 => ?_)
  have N2 := Fr.snoc X2 N0 g_a1
  have O_a1_2 := R_ND_set_redAndLeftCount hw W2 O_a1
  have K2 := Keep.wr K0 W2 (mw 0 rfl)
  exact own_retV X2 hx hret hlk (hb hby d14_27) (by decide) (by decide) (by rw [e2]; exact ⟨rfl, N2, K2, O_a1_2⟩)
theorem rm_replaceInParent_104 (hw : HW a0 Z) (a1 a2 a3 : Addr) (i1 : Int32) (a4 a5 : Addr) (a6 a7 a8 : Addr) (i2 i3 i4 : Int32) (h0 : Heap) (n0 : Nat) (Z0 : n0 ≤ h0.size) (O_a1 : R_MP Z h0 a1 .null (.ref a2) (.int 3) (.int i1)) (O_a2 : R_ND Z h0 a2 (.ref a4) (.ref a5) .null .null .null (.int (-2147483648))) (O_a3 : R_ND Z h0 a3 (.ref a6) (.ref a7) .null (.ref a8) (.ref a2) (.int 0)) (ne_a1_a3 : a1 ≠ a3) (g_a1 : n0 ≤ a1) (g_a3 : n0 ≤ a3) (hk0 : ¬ (i3 < i2)) (hk1 : ¬ (i3 = i2)) (hk2 : i3 < i4) :
    Ctr l Y24 B23 4 none [] (rmk 0 0 0 0) Z #[(.ref a1), (.ref a2), (.ref a3)] h0 (fun v h L => v = none ∧ Fr n0 L ∧ Keep h0 h [a1, a3] ∧ R_MP Z h a1 .null (.ref a3) (.int 3) (.int i1) ∧ R_ND Z h a3 (.ref a6) (.ref a7) .null (.ref a8) .null (.int 0)) := by
  refine own_enter pn_2 (fun p e s m below meth c s₁ hx hby hml hown hnm hret hlk hZ X0 e0 => ?_)
  have N0 := Fr.nil n0
  have K0 := Keep.refl h0 [a1, a3]
  rw [ef_20_RRR m _ _ _]
  refine g_aloadN X0 hx (hb hby d20_0) rfl rfl ?_
  refine g_getF X0 hx hZ hown (Wd117 hw) e0 O_a2.2.2.2.2.2.1 (hb hby d20_1) (fun T1 X1 e1 => ?_)
  refine g_astoreN X1 hx #[vr a1, vr a2, vr a3, vn] (hb hby d20_4) rfl rfl ?_
  refine g_aloadN X1 hx (hb hby d20_5) rfl rfl ?_
  refine g_nonnullNo X1 hx (hb hby d20_6) ?_
  refine g_aloadN X1 hx (hb hby d20_9) rfl rfl ?_
  refine g_aloadN X1 hx (hb hby d20_10) rfl rfl ?_
  refine g_putF X1 hx hZ hown (Wd25 hw) e1 O_a1.2.2.1 O_a1.1 (Or.inl (Wd26 hw)) (Wd2 hw) fd_2 rfl rfl (hb hby d20_11) (fun T2 h2 X2 e2 W2 => ?_)
  have N2 := Fr.snoc X2 N0 g_a1
  have O_a1_2 := R_MP_set_root hw W2 O_a1
  have O_a3_2 := R_ND_other W2 O_a3 ne_a1_a3.symm
  have K2 := Keep.wr K0 W2 (mw 0 rfl)
  refine g_goto X2 hx 38 (hb hby d20_14) (by decide) (by decide) ?_
  refine g_aloadN X2 hx (hb hby d20_38) rfl rfl ?_
  refine g_nullNo X2 hx (hb hby d20_39) ?_
  refine g_aloadN X2 hx (hb hby d20_42) rfl rfl ?_
  refine g_aloadN X2 hx (hb hby d20_43) rfl rfl ?_
  refine g_putF X2 hx hZ hown (Wd117 hw) e2 O_a3_2.2.2.2.2.2.1 O_a3_2.1 (Or.inl (Wd90 hw)) (Wd76 hw) fd_2 rfl rfl (hb hby d20_44) (fun T3 h3 X3 e3 W3 => ?_)
  have N3 := Fr.snoc X3 N2 g_a3
  have O_a1_3 := R_MP_other W3 O_a1_2 ne_a1_a3
  have O_a3_3 := R_ND_set_parent hw W3 O_a3_2
  have K3 := Keep.wr K2 W3 (mw 1 rfl)
  exact own_retV X3 hx hret hlk (hb hby d20_47) (by decide) (by decide) (by rw [e3]; exact ⟨rfl, N3, K3, O_a1_3, O_a3_3⟩)
theorem rm_addToLeftCount_105 (hw : HW a0 Z) (a1 a2 : Addr) (a3 a4 a5 : Addr) (h0 : Heap) (n0 : Nat) (Z0 : n0 ≤ h0.size) (O_a1 : R_ND Z h0 a1 (.ref a2) (.ref a3) (.ref a4) (.ref a5) .null (.int 0)) (g_a1 : n0 ≤ a1) :
    Ctr l Y12 B11 2 none [] (rmk 0 0 0 0) Z #[(.ref a1), (.int 1)] h0 (fun v h L => v = none ∧ Fr n0 L ∧ Keep h0 h [a1] ∧ R_ND Z h a1 (.ref a2) (.ref a3) (.ref a4) (.ref a5) .null (.int 1)) := by
  refine own_enter pn_2 (fun p e s m below meth c s₁ hx hby hml hown hnm hret hlk hZ X0 e0 => ?_)
  have N0 := Fr.nil n0
  have K0 := Keep.refl h0 [a1]
  rw [ef_22_RI m _ _]
  refine g_aloadN X0 hx (hb hby d22_0) rfl rfl ?_
  refine g_dup X0 hx (hb hby d22_1) rfl ?_
  refine g_getF X0 hx hZ hown (Wd94 hw) e0 O_a1.2.2.2.2.2.2 (hb hby d22_2) (fun T1 X1 e1 => ?_)
  refine g_iloadN X1 hx (hb hby d22_5) rfl ?_
  refine g_iadd X1 hx (hb hby d22_6) ?_
  show Go p e below (T1.setTop (mkF m 7 #[vr a1, vi 1] [(.int ((0 : Int32) + (1 : Int32))), (.ref a1)])) _
  rw [show ((0 : Int32) + (1 : Int32)) = (1 : Int32) from by decide]
  refine g_putF X1 hx hZ hown (Wd94 hw) e1 O_a1.2.2.2.2.2.2 O_a1.1 (Or.inl (Wd84 hw)) (Wd76 hw) fd_0 rfl rfl (hb hby d22_7) (fun T2 h2 X2 e2 W2 => ?_)
  have N2 := Fr.snoc X2 N0 g_a1
  have O_a1_2 := R_ND_set_redAndLeftCount hw W2 O_a1
  have K2 := Keep.wr K0 W2 (mw 0 rfl)
  exact own_retV X2 hx hret hlk (hb hby d22_10) (by decide) (by decide) (by rw [e2]; exact ⟨rfl, N2, K2, O_a1_2⟩)
theorem rm_rotateLeft_103 (hw : HW a0 Z) (a1 a2 : Addr) (i1 : Int32) (a3 a4 a5 : Addr) (i2 : Int32) (a6 a7 a8 : Addr) (i3 i4 : Int32) (h0 : Heap) (n0 : Nat) (Z0 : n0 ≤ h0.size) (O_a1 : R_MP Z h0 a1 .null (.ref a2) (.int 3) (.int i1)) (O_a2 : R_ND Z h0 a2 (.ref a3) (.ref a4) .null (.ref a5) .null (.int (-2147483648))) (O_a5 : R_ND Z h0 a5 (.ref a6) (.ref a7) .null (.ref a8) (.ref a2) (.int 0)) (ne_a1_a2 : a1 ≠ a2) (ne_a1_a5 : a1 ≠ a5) (ne_a2_a5 : a2 ≠ a5) (g_a1 : n0 ≤ a1) (g_a2 : n0 ≤ a2) (g_a5 : n0 ≤ a5) (hk0 : ¬ (i3 < i2)) (hk1 : ¬ (i3 = i2)) (hk2 : i3 < i4) :
    Ctr l Y29 B28 3 none [] (rmk 1 0 0 15) Z #[(.ref a1), (.ref a2)] h0 (fun v h L => v = none ∧ Fr n0 L ∧ Keep h0 h [a1, a2, a5] ∧ R_MP Z h a1 .null (.ref a5) (.int 3) (.int i1) ∧ R_ND Z h a2 (.ref a3) (.ref a4) .null .null (.ref a5) (.int (-2147483648)) ∧ R_ND Z h a5 (.ref a6) (.ref a7) (.ref a2) (.ref a8) .null (.int 1)) := by
  refine own_enter pn_2 (fun p e s m below meth c s₁ hx hby hml hown hnm hret hlk hZ X0 e0 => ?_)
  have D {q : Nat} {r} (z : decode B28 q = r) : decode c.code q = r := hb hby z
  have N0 := Fr.nil n0
  have K0 := Keep.refl h0 [a1, a2, a5]
  rw [ef_19_RR m _ _]
  refine g_aloadN X0 hx (D d19_0) rfl rfl ?_
  refine g_getF X0 hx hZ hown (Wd103 hw) e0 O_a2.2.2.2.2.1 (D d19_1) (fun T1 X1 e1 => ?_)
  refine g_astoreN X1 hx #[vr a1, vr a2, vr a5] (D d19_4) rfl rfl ?_
  refine g_aloadN X1 hx (D d19_5) rfl rfl ?_
  refine g_aloadN X1 hx (D d19_6) rfl rfl ?_
  refine g_getF X1 hx hZ hown (Wd101 hw) e1 O_a5.2.2.2.1 (D d19_7) (fun T2 X2 e2 => ?_)
  refine g_putF X2 hx hZ hown (Wd103 hw) e2 O_a2.2.2.2.2.1 O_a2.1 (Or.inl (Wd104 hw)) (Wd76 hw) fd_2 rfl rfl (D d19_10) (fun T3 h3 X3 e3 W3 => ?_)
  have N3 := Fr.snoc X3 N0 g_a2
  have O_a1_3 := R_MP_other W3 O_a1 ne_a1_a2
  have O_a2_3 := R_ND_set_right hw W3 O_a2
  have O_a5_3 := R_ND_other W3 O_a5 ne_a2_a5.symm
  have Z3 : n0 ≤ h3.size := Nat.le_trans Z0 (Nat.le_of_eq W3.size.symm)
  have K3 := Keep.wr K0 W3 (mw 1 rfl)
  refine g_aloadN X3 hx (D d19_13) rfl rfl ?_
  refine g_getF X3 hx hZ hown (Wd101 hw) e3 O_a5_3.2.2.2.1 (D d19_14) (fun T4 X4 e4 => ?_)
  refine g_nullYes X4 hx 28 (D d19_17) (by decide) (by decide) ?_
  refine g_aloadN X4 hx (D d19_28) rfl rfl ?_
  refine g_aloadN X4 hx (D d19_29) rfl rfl ?_
  refine g_aloadN X4 hx (D d19_30) rfl rfl ?_
  refine g_P X4 hx hZ hown (lk23 hw) (rm_replaceInParent_104 hw a1 a2 a5 i1 a3 a4 a6 a7 a8 i2 i3 i4 h3 n0 Z3 O_a1_3 O_a2_3 O_a5_3 ne_a1_a5 g_a1 g_a5 hk0 hk1 hk2) e4 O_a1_3.1 (D d19_31) hml.symm rfl rfl (Nat.le_refl _) (by decide) (fun v5 T5 L5 X5 q5 => ?_)
  obtain ⟨rfl, M5, Kc5, Rk5_0, Rk5_1⟩ := q5
  have N5 := Fr.app N3 M5
  have O_a2_5 := R_ND_keep O_a2_3 Kc5 (own_nin ne_a1_a2.symm (own_nin ne_a2_a5 nl))
  have K5 := Keep.trans K3 Kc5 (own_memc (mw 0 rfl) (own_memc (mw 2 rfl) own_memn))
  have Z5 : n0 ≤ T5.heap.size := Nat.le_trans Z3 Kc5.1
  refine g_aloadN X5 hx (D d19_34) rfl rfl ?_
  refine g_aloadN X5 hx (D d19_35) rfl rfl ?_
  refine g_putF X5 hx hZ hown (Wd101 hw) (rfl : T5.heap = T5.heap) Rk5_1.2.2.2.1 Rk5_1.1 (Or.inl (Wd102 hw)) (Wd76 hw) fd_2 rfl rfl (D d19_36) (fun T6 h6 X6 e6 W6 => ?_)
  have N6 := Fr.snoc X6 N5 g_a5
  have O_a2_6 := R_ND_other W6 O_a2_5 ne_a2_a5
  have O_a1_6 := R_MP_other W6 Rk5_0 ne_a1_a5
  have O_a5_6 := R_ND_set_left hw W6 Rk5_1
  have Z6 : n0 ≤ h6.size := Nat.le_trans Z5 (Nat.le_of_eq W6.size.symm)
  have K6 := Keep.wr K5 W6 (mw 2 rfl)
  refine g_aloadN X6 hx (D d19_39) rfl rfl ?_
  refine g_aloadN X6 hx (D d19_40) rfl rfl ?_
  refine g_putF X6 hx hZ hown (Wd117 hw) e6 O_a2_6.2.2.2.2.2.1 O_a2_6.1 (Or.inl (Wd90 hw)) (Wd76 hw) fd_2 rfl rfl (D d19_41) (fun T7 h7 X7 e7 W7 => ?_)
  have N7 := Fr.snoc X7 N6 g_a2
  have O_a2_7 := R_ND_set_parent hw W7 O_a2_6
  have O_a1_7 := R_MP_other W7 O_a1_6 ne_a1_a2
  have O_a5_7 := R_ND_other W7 O_a5_6 ne_a2_a5.symm
  have Z7 : n0 ≤ h7.size := Nat.le_trans Z6 (Nat.le_of_eq W7.size.symm)
  have K7 := Keep.wr K6 W7 (mw 1 rfl)
  refine g_aloadN X7 hx (D d19_44) rfl rfl ?_
  refine g_aloadN X7 hx (D d19_45) rfl rfl ?_
  refine g_S X7 hx hZ hown (lk24 hw) (rm_leftCount_75 hw a2 a3 a4 a5 h7 n0 Z7 O_a2_7) e7 (D d19_46) hml.symm rfl (rest := [(.ref a5)]) rfl (W := 1) (Nat.le_of_eq rfl) (by decide) (fun v8 T8 L8 X8 q8 => ?_)
  obtain ⟨rfl, M8, e8⟩ := q8
  have N8 := Fr.app N7 M8
  refine g_iconst X8 hx (1 : Int32) (D d19_49) (by decide) ?_
  refine g_iadd X8 hx (D d19_50) ?_
  show Go p e below (T8.setTop (mkF m 51 #[vr a1, vr a2, vr a5] [(.int ((0 : Int32) + (1 : Int32))), (.ref a5)])) _
  rw [show ((0 : Int32) + (1 : Int32)) = (1 : Int32) from by decide]
  refine g_S X8 hx hZ hown (lk11 hw) (rm_addToLeftCount_105 hw a5 a6 a7 a2 a8 h7 n0 Z7 O_a5_7 g_a5) e8 (D d19_51) hml.symm rfl rfl (Nat.le_refl _) (by decide) (fun v9 T9 L9 X9 q9 => ?_)
  obtain ⟨rfl, M9, Kc9, Rk9_0⟩ := q9
  have N9 := Fr.app N8 M9
  have O_a2_9 := R_ND_keep O_a2_7 Kc9 (own_nin ne_a2_a5 nl)
  have O_a1_9 := R_MP_keep O_a1_7 Kc9 (own_nin ne_a1_a5 nl)
  have K9 := Keep.trans K7 Kc9 (own_memc (mw 2 rfl) own_memn)
  have Z9 : n0 ≤ T9.heap.size := Nat.le_trans Z7 Kc9.1
  refine g_aloadN X9 hx (D d19_54) rfl rfl ?_
  refine g_aloadN X9 hx (D d19_55) rfl rfl ?_
  refine g_V X9 hx hZ hown (lk25 hw) (rm_refresh_57 hw a1 a2 T9.heap n0 Z9 ) (rfl : T9.heap = T9.heap) O_a1_9.1 (D d19_56) hml.symm rfl rfl (Nat.le_refl _) (by decide) (fun v10 T10 L10 X10 q10 => ?_)
  obtain ⟨rfl, M10, e10⟩ := q10
  have N10 := Fr.app N9 M10
  refine g_aloadN X10 hx (D d19_59) rfl rfl ?_
  refine g_aloadN X10 hx (D d19_60) rfl rfl ?_
  refine g_V X10 hx hZ hown (lk25 hw) (rm_refresh_57 hw a1 a5 T9.heap n0 Z9 ) e10 O_a1_9.1 (D d19_61) hml.symm rfl rfl (Nat.le_refl _) (by decide) (fun v11 T11 L11 X11 q11 => ?_)
  obtain ⟨rfl, M11, e11⟩ := q11
  have N11 := Fr.app N10 M11
  exact own_retV X11 hx hret hlk (D d19_64) (by decide) (by decide) (by rw [e11]; exact ⟨rfl, N11, K9, O_a1_9, O_a2_9, Rk9_0⟩)
theorem d17_110 : decode B17 110 = .ok (.aload 4, 2) := by decide +kernel
theorem d17_112 : decode B17 112 = .ok (.getfield 211, 3) := by decide +kernel
theorem d17_115 : decode B17 115 = .ok (.astore 5, 2) := by decide +kernel
theorem d17_117 : decode B17 117 = .ok (.aload 5, 2) := by decide +kernel
theorem d17_119 : decode B17 119 = .ok (.invokestatic 300, 3) := by decide +kernel
theorem d17_122 : decode B17 122 = .ok (.ifCond .eq 26, 3) := by decide +kernel
theorem d17_148 : decode B17 148 = .ok (.aload_n 2, 1) := by decide +kernel
theorem d17_149 : decode B17 149 = .ok (.aload_n 3, 1) := by decide +kernel
theorem d17_150 : decode B17 150 = .ok (.getfield 211, 3) := by decide +kernel
theorem d17_153 : decode B17 153 = .ok (.if_acmp .ne 15, 3) := by decide +kernel
theorem d17_156 : decode B17 156 = .ok (.aload_n 0, 1) := by decide +kernel
theorem d17_157 : decode B17 157 = .ok (.aload_n 3, 1) := by decide +kernel
theorem d17_158 : decode B17 158 = .ok (.invokevirtual 307, 3) := by decide +kernel
theorem d17_161 : decode B17 161 = .ok (.aload_n 3, 1) := by decide +kernel
theorem d17_162 : decode B17 162 = .ok (.astore_n 2, 1) := by decide +kernel
theorem d17_163 : decode B17 163 = .ok (.aload_n 2, 1) := by decide +kernel
theorem d17_164 : decode B17 164 = .ok (.getfield 282, 3) := by decide +kernel
theorem d17_167 : decode B17 167 = .ok (.astore_n 3, 1) := by decide +kernel
theorem d17_168 : decode B17 168 = .ok (.aload_n 3, 1) := by decide +kernel
theorem d17_169 : decode B17 169 = .ok (.iconst 0, 1) := by decide +kernel
theorem d17_170 : decode B17 170 = .ok (.invokestatic 237, 3) := by decide +kernel
theorem d17_173 : decode B17 173 = .ok (.aload 4, 2) := by decide +kernel
theorem d17_175 : decode B17 175 = .ok (.iconst 1, 1) := by decide +kernel
theorem d17_176 : decode B17 176 = .ok (.invokestatic 237, 3) := by decide +kernel
theorem d17_179 : decode B17 179 = .ok (.aload_n 0, 1) := by decide +kernel
theorem d17_180 : decode B17 180 = .ok (.aload 4, 2) := by decide +kernel
theorem d17_182 : decode B17 182 = .ok (.invokevirtual 304, 3) := by decide +kernel
theorem rm_balanceAfterInsert_96 (hw : HW a0 Z) (a1 a2 a3 : Addr) (i1 : Int32) (a4 a5 : Addr) (a6 a7 a8 : Addr) (i2 : Int32) (a9 a10 : Addr) (i3 i4 : Int32) (h0 : Heap) (n0 : Nat) (Z0 : n0 ≤ h0.size) (O_a1 : R_MP Z h0 a1 .null (.ref a3) (.int 3) (.int i1)) (O_a2 : R_ND Z h0 a2 (.ref a4) (.ref a5) .null .null (.ref a6) (.int (-2147483648))) (O_a3 : R_ND Z h0 a3 (.ref a7) (.ref a8) .null (.ref a6) .null (.int 0)) (O_a6 : R_ND Z h0 a6 (.ref a9) (.ref a10) (.ref a2) .null (.ref a3) (.int (-2147483647))) (ne_a1_a2 : a1 ≠ a2) (ne_a1_a3 : a1 ≠ a3) (ne_a1_a6 : a1 ≠ a6) (ne_a2_a3 : a2 ≠ a3) (ne_a2_a6 : a2 ≠ a6) (ne_a3_a6 : a3 ≠ a6) (g_a1 : n0 ≤ a1) (g_a2 : n0 ≤ a2) (g_a3 : n0 ≤ a3) (g_a6 : n0 ≤ a6) (hk0 : ¬ (i2 < i3)) (hk1 : ¬ (i2 = i3)) (hk2 : i2 < i4) :
    Ctr l Y18 B17 6 none [] (rmk 2 0 0 29) Z #[(.ref a1), (.ref a2)] h0 (fun v h L => v = none ∧ Fr n0 L ∧ Keep h0 h [a1, a2, a3, a6] ∧ R_MP Z h a1 .null (.ref a2) (.int 3) (.int i1) ∧ R_ND Z h a2 (.ref a4) (.ref a5) (.ref a3) (.ref a6) .null (.int 1) ∧ R_ND Z h a3 (.ref a7) (.ref a8) .null .null (.ref a2) (.int (-2147483648)) ∧ R_ND Z h a6 (.ref a9) (.ref a10) .null .null (.ref a2) (.int (-2147483648))) := by
  refine own_enter pn_2 (fun p e s m below meth c s₁ hx hby hml hown hnm hret hlk hZ X0 e0 => ?_)
  have D {q : Nat} {r} (z : decode B17 q = r) : decode c.code q = r := hb hby z
  have N0 := Fr.nil n0
  have K0 := Keep.refl h0 [a1, a2, a3, a6]
  rw [ef_17_RR m _ _]
  refine g_aloadN X0 hx (D d17_0) rfl rfl ?_
  refine g_astoreN X0 hx #[vr a1, vr a2, vr a2, vu, vu, vu] (D d17_1) rfl rfl ?_
  refine g_aloadN X0 hx (D d17_2) rfl rfl ?_
  refine g_getF X0 hx hZ hown (Wd117 hw) e0 O_a2.2.2.2.2.2.1 (D d17_3) (fun T1 X1 e1 => ?_)
  refine g_S X1 hx hZ hown (lk15 hw) (rm_isRed_49 hw a6 a9 a10 a2 a3 h0 n0 Z0 O_a6) e1 (D d17_6) hml.symm rfl rfl (Nat.le_refl _) (by decide) (fun v2 T2 L2 X2 q2 => ?_)
  obtain ⟨rfl, M2, e2⟩ := q2
  have N2 := Fr.app N0 M2
  refine g_ifNo X2 hx (D d17_9) ((if0 _ _).trans (feq ((by decide) : ¬ ((1 : Int32) = (0 : Int32)))).1) ?_
  refine g_aloadN X2 hx (D d17_12) rfl rfl ?_
  refine g_getF X2 hx hZ hown (Wd117 hw) e2 O_a2.2.2.2.2.2.1 (D d17_13) (fun T3 X3 e3 => ?_)
  refine g_astoreN X3 hx #[vr a1, vr a2, vr a2, vr a6, vu, vu] (D d17_16) rfl rfl ?_
  refine g_aloadN X3 hx (D d17_17) rfl rfl ?_
  refine g_getF X3 hx hZ hown (Wd117 hw) e3 O_a6.2.2.2.2.2.1 (D d17_18) (fun T4 X4 e4 => ?_)
  refine g_astore X4 hx #[vr a1, vr a2, vr a2, vr a6, vr a3, vu] (D d17_21) rfl rfl ?_
  refine g_aloadN X4 hx (D d17_23) rfl rfl ?_
  refine g_aload X4 hx (D d17_24) rfl rfl ?_
  refine g_getF X4 hx hZ hown (Wd101 hw) e4 O_a3.2.2.2.1 (D d17_26) (fun T5 X5 e5 => ?_)
  refine g_acmp X5 hx 110 false rfl rfl (D d17_29) (decide_eq_false nofun) (by decide) (by decide) ?_
  refine g_aload X5 hx (D d17_110) rfl rfl ?_
  refine g_getF X5 hx hZ hown (Wd101 hw) e5 O_a3.2.2.2.1 (D d17_112) (fun T6 X6 e6 => ?_)
  refine g_astore X6 hx #[vr a1, vr a2, vr a2, vr a6, vr a3, vn] (D d17_115) rfl rfl ?_
  refine g_aload X6 hx (D d17_117) rfl rfl ?_
  refine g_S X6 hx hZ hown (lk15 hw) (rm_isRed_50 hw  h0 n0 Z0 ) e6 (D d17_119) hml.symm rfl rfl (Nat.le_refl _) (by decide) (fun v7 T7 L7 X7 q7 => ?_)
  obtain ⟨rfl, M7, e7⟩ := q7
  have N7 := Fr.app N2 M7
  refine g_ifYes X7 hx 148 (D d17_122) ((if0 _ _).trans (teq ((by decide) : (0 : Int32) = (0 : Int32))).1) (by decide) (by decide) ?_
  refine g_aloadN X7 hx (D d17_148) rfl rfl ?_
  refine g_aloadN X7 hx (D d17_149) rfl rfl ?_
  refine g_getF X7 hx hZ hown (Wd101 hw) e7 O_a6.2.2.2.1 (D d17_150) (fun T8 X8 e8 => ?_)
  have c153_0 : a2 = a2 := rfl
  refine g_acmp X8 hx 156 true rfl rfl (D d17_153) (decide_eq_true (congrArg Value.ref c153_0)) (by decide) (by decide) ?_
  refine g_aloadN X8 hx (D d17_156) rfl rfl ?_
  refine g_aloadN X8 hx (D d17_157) rfl rfl ?_
  refine g_P X8 hx hZ hown (lk26 hw) (rm_rotateRight_97 hw a1 a6 a3 i1 a9 a10 a2 a7 a8 i4 a4 a5 i3 i2 h0 n0 Z0 O_a1 O_a6 O_a3 O_a2 ne_a1_a6 ne_a1_a3 ne_a1_a2 ne_a3_a6.symm ne_a2_a6.symm ne_a2_a3.symm g_a6 g_a3 g_a2 hk0 hk1 hk2) e8 O_a1.1 (D d17_158) hml.symm rfl rfl (Nat.le_refl _) (by decide) (fun v9 T9 L9 X9 q9 => ?_)
  obtain ⟨rfl, M9, Kc9, Rk9_0, Rk9_1, Rk9_2⟩ := q9
  have N9 := Fr.app N7 M9
  have O_a1_9 := R_MP_keep O_a1 Kc9 (own_nin ne_a1_a6 (own_nin ne_a1_a3 (own_nin ne_a1_a2 nl)))
  have K9 := Keep.trans K0 Kc9 (own_memc (mw 3 rfl) (own_memc (mw 2 rfl) (own_memc (mw 1 rfl) own_memn)))
  have Z9 : n0 ≤ T9.heap.size := Nat.le_trans Z0 Kc9.1
  refine g_aloadN X9 hx (D d17_161) rfl rfl ?_
  refine g_astoreN X9 hx #[vr a1, vr a2, vr a6, vr a6, vr a3, vn] (D d17_162) rfl rfl ?_
  refine g_aloadN X9 hx (D d17_163) rfl rfl ?_
  refine g_getF X9 hx hZ hown (Wd117 hw) (rfl : T9.heap = T9.heap) Rk9_0.2.2.2.2.2.1 (D d17_164) (fun T10 X10 e10 => ?_)
  refine g_astoreN X10 hx #[vr a1, vr a2, vr a6, vr a2, vr a3, vn] (D d17_167) rfl rfl ?_
  refine g_aloadN X10 hx (D d17_168) rfl rfl ?_
  refine g_iconst X10 hx (0 : Int32) (D d17_169) (by decide) ?_
  refine g_S X10 hx hZ hown (lk16 hw) (rm_setRed_101 hw a2 a4 a5 a6 a3 T9.heap n0 Z9 Rk9_2 g_a2) e10 (D d17_170) hml.symm rfl rfl (Nat.le_refl _) (by decide) (fun v11 T11 L11 X11 q11 => ?_)
  obtain ⟨rfl, M11, Kc11, Rk11_0⟩ := q11
  have N11 := Fr.app N9 M11
  have O_a1_11 := R_MP_keep O_a1_9 Kc11 (own_nin ne_a1_a2 nl)
  have O_a6_11 := R_ND_keep Rk9_0 Kc11 (own_nin ne_a2_a6.symm nl)
  have O_a3_11 := R_ND_keep Rk9_1 Kc11 (own_nin ne_a2_a3.symm nl)
  have K11 := Keep.trans K9 Kc11 (own_memc (mw 1 rfl) own_memn)
  have Z11 : n0 ≤ T11.heap.size := Nat.le_trans Z9 Kc11.1
  refine g_aload X11 hx (D d17_173) rfl rfl ?_
  refine g_iconst X11 hx (1 : Int32) (D d17_175) (by decide) ?_
  refine g_S X11 hx hZ hown (lk16 hw) (rm_setRed_102 hw a3 a7 a8 a2 T11.heap n0 Z11 O_a3_11 g_a3) (rfl : T11.heap = T11.heap) (D d17_176) hml.symm rfl rfl (Nat.le_refl _) (by decide) (fun v12 T12 L12 X12 q12 => ?_)
  obtain ⟨rfl, M12, Kc12, Rk12_0⟩ := q12
  have N12 := Fr.app N11 M12
  have O_a1_12 := R_MP_keep O_a1_11 Kc12 (own_nin ne_a1_a3 nl)
  have O_a6_12 := R_ND_keep O_a6_11 Kc12 (own_nin ne_a3_a6.symm nl)
  have O_a2_12 := R_ND_keep Rk11_0 Kc12 (own_nin ne_a2_a3 nl)
  have K12 := Keep.trans K11 Kc12 (own_memc (mw 2 rfl) own_memn)
  have Z12 : n0 ≤ T12.heap.size := Nat.le_trans Z11 Kc12.1
  refine g_aloadN X12 hx (D d17_179) rfl rfl ?_
  refine g_aload X12 hx (D d17_180) rfl rfl ?_
  refine g_P X12 hx hZ hown (lk28 hw) (rm_rotateLeft_103 hw a1 a3 i1 a7 a8 a2 i3 a4 a5 a6 i2 i4 T12.heap n0 Z12 O_a1_12 Rk12_0 O_a2_12 ne_a1_a3 ne_a1_a2 ne_a2_a3.symm g_a1 g_a3 g_a2 hk0 hk1 hk2) (rfl : T12.heap = T12.heap) O_a1_12.1 (D d17_182) hml.symm rfl rfl (Nat.le_refl _) (by decide) (fun v13 T13 L13 X13 q13 => ?_)
  obtain ⟨rfl, M13, Kc13, Rk13_0, Rk13_1, Rk13_2⟩ := q13
  have N13 := Fr.app N12 M13
  have O_a6_13 := R_ND_keep O_a6_12 Kc13 (own_nin ne_a1_a6.symm (own_nin ne_a3_a6.symm (own_nin ne_a2_a6.symm nl)))
  have K13 := Keep.trans K12 Kc13 (own_memc (mw 0 rfl) (own_memc (mw 2 rfl) (own_memc (mw 1 rfl) own_memn)))
  have Z13 : n0 ≤ T13.heap.size := Nat.le_trans Z12 Kc13.1
  refine g_goto X13 hx 2 (D d17_185) (by decide) (by decide) ?_
  refine g_aloadN X13 hx (D d17_2) rfl rfl ?_
  refine g_getF X13 hx hZ hown (Wd117 hw) (rfl : T13.heap = T13.heap) O_a6_13.2.2.2.2.2.1 (D d17_3) (fun T14 X14 e14 => ?_)
  refine g_S X14 hx hZ hown (lk15 hw) (rm_isRed_58 hw a2 a4 a5 a3 a6 T13.heap n0 Z13 Rk13_2) e14 (D d17_6) hml.symm rfl rfl (Nat.le_refl _) (by decide) (fun v15 T15 L15 X15 q15 => ?_)
  obtain ⟨rfl, M15, e15⟩ := q15
  have N15 := Fr.app N13 M15
  refine g_ifYes X15 hx 188 (D d17_9) ((if0 _ _).trans (teq ((by decide) : (0 : Int32) = (0 : Int32))).1) (by decide) (by decide) ?_
  refine g_aloadN X15 hx (D d17_188) rfl rfl ?_
  refine g_getF X15 hx hZ hown (Wd25 hw) e15 Rk13_0.2.2.1 (D d17_189) (fun T16 X16 e16 => ?_)
  refine g_iconst X16 hx (0 : Int32) (D d17_192) (by decide) ?_
  refine g_S X16 hx hZ hown (lk16 hw) (rm_setRed_59 hw a2 a4 a5 a3 a6 T13.heap n0 Z13 Rk13_2 g_a2) e16 (D d17_193) hml.symm rfl rfl (Nat.le_refl _) (by decide) (fun v17 T17 L17 X17 q17 => ?_)
  obtain ⟨rfl, M17, Kc17, Rk17_0⟩ := q17
  have N17 := Fr.app N15 M17
  have O_a6_17 := R_ND_keep O_a6_13 Kc17 (own_nin ne_a2_a6.symm nl)
  have O_a1_17 := R_MP_keep Rk13_0 Kc17 (own_nin ne_a1_a2 nl)
  have O_a3_17 := R_ND_keep Rk13_1 Kc17 (own_nin ne_a2_a3.symm nl)
  have K17 := Keep.trans K13 Kc17 (own_memc (mw 1 rfl) own_memn)
  exact own_retV X17 hx hret hlk (D d17_196) (by decide) (by decide) (by rw [(rfl : T17.heap = T17.heap)]; exact ⟨rfl, N17, K17, O_a1_17, Rk17_0, O_a3_17, O_a6_17⟩)
theorem rm_addIfAbsent_95 (hw : HW a0 Z) (a1 a2 : Addr) (a3 a4 : Addr) (i1 i2 : Int32) (a5 a6 a7 : Addr) (i3 : Int32) (a8 a9 : Addr) (i4 : Int32) (h0 : Heap) (n0 : Nat) (Z0 : n0 ≤ h0.size) (O_a1 : R_MP Z h0 a1 .null (.ref a4) (.int 2) (.int i1)) (O_a2 : R_IN Z h0 a2 (.int i2)) (O_a4 : R_ND Z h0 a4 (.ref a5) (.ref a6) .null (.ref a7) .null (.int 0)) (O_a5 : R_IN Z h0 a5 (.int i3)) (O_a7 : R_ND Z h0 a7 (.ref a8) (.ref a9) .null .null (.ref a4) (.int (-2147483648))) (O_a8 : R_IN Z h0 a8 (.int i4)) (ne_a1_a4 : a1 ≠ a4) (ne_a1_a7 : a1 ≠ a7) (ne_a4_a7 : a4 ≠ a7) (g_a1 : n0 ≤ a1) (g_a4 : n0 ≤ a4) (g_a7 : n0 ≤ a7) (hk0 : ¬ (i2 < i3)) (hk1 : ¬ (i2 = i3)) (hk2 : i2 < i4) :
    CtrH l Y19 B18 15 (some F1_) [(71, 122, 210, 0), (137, 195, 210, 0), (210, 212, 210, 0)] (rmk 4 1 6 53) Z #[(.ref a1), (.ref a2), (.ref a3)] h0 (fun v h L => ∃ f1, v = some .null ∧ Fr n0 L ∧ Keep h0 h [a1, a4, a7] ∧ h0.size ≤ f1 ∧ R_MP Z h a1 .null (.ref f1) (.int 3) (.int (i1 + (1 : Int32))) ∧ R_ND Z h a4 (.ref a5) (.ref a6) .null .null (.ref f1) (.int (-2147483648)) ∧ R_ND Z h a7 (.ref a8) (.ref a9) .null .null (.ref f1) (.int (-2147483648)) ∧ R_ND Z h f1 (.ref a2) (.ref a3) (.ref a4) (.ref a7) .null (.int 1)) := by
  refine own_enterH pn_2 (fun p e s m below meth c s₁ hx hby hml hown hnm hret hlk hZ X0 e0 => ?_)
  have D {q : Nat} {r} (z : decode B18 q = r) : decode c.code q = r := hb hby z
  have N0 := Fr.nil n0
  have K0 := Keep.refl h0 [a1, a4, a7]
  rw [ef_33_RRR m _ _ _]
  refine g_aloadN X0 hx (D d33_0) rfl rfl ?_
  refine g_getF X0 hx hZ hown (Wd25 hw) e0 O_a1.2.2.1 (D d33_1) (fun T1 X1 e1 => ?_)
  refine g_nonnullYes X1 hx 50 (D d33_4) (by decide) (by decide) ?_
  refine g_null X1 hx (D d33_50) ?_
  refine g_astoreN X1 hx #[vr a1, vr a2, vr a3, vn, vu, vu, vu, vu, vu, vu, vu, vu, vu, vu, vu] (D d33_51) rfl rfl ?_
  refine g_iconst X1 hx (0 : Int32) (D d33_52) (by decide) ?_
  refine g_istore X1 hx #[vr a1, vr a2, vr a3, vn, vi 0, vu, vu, vu, vu, vu, vu, vu, vu, vu, vu] (D d33_53) rfl ?_
  refine g_aloadN X1 hx (D d33_55) rfl rfl ?_
  refine g_getF X1 hx hZ hown (Wd25 hw) e1 O_a1.2.2.1 (D d33_56) (fun T2 X2 e2 => ?_)
  refine g_astore X2 hx #[vr a1, vr a2, vr a3, vn, vi 0, vr a4, vu, vu, vu, vu, vu, vu, vu, vu, vu] (D d33_59) rfl rfl ?_
  refine g_aload X2 hx (D d33_61) rfl rfl ?_
  refine g_getF X2 hx hZ hown (Wd100 hw) e2 O_a4.2.1 (D d33_63) (fun T3 X3 e3 => ?_)
  refine g_astore X3 hx #[vr a1, vr a2, vr a3, vn, vi 0, vr a4, vr a5, vu, vu, vu, vu, vu, vu, vu, vu] (D d33_66) rfl rfl ?_
  refine g_null X3 hx (D d33_68) ?_
  refine g_astore X3 hx #[vr a1, vr a2, vr a3, vn, vi 0, vr a4, vr a5, vn, vu, vu, vu, vu, vu, vu, vu] (D d33_69) rfl rfl ?_
  refine g_aload X3 hx (D d33_71) rfl rfl ?_
  refine g_nullNo X3 hx (D d33_73) ?_
  refine g_aload X3 hx (D d33_76) rfl rfl ?_
  refine g_getF X3 hx hZ hown (Wd101 hw) e3 O_a4.2.2.2.1 (D d33_78) (fun T4 X4 e4 => ?_)
  refine g_astore X4 hx #[vr a1, vr a2, vr a3, vn, vi 0, vr a4, vr a5, vn, vn, vu, vu, vu, vu, vu, vu] (D d33_81) rfl rfl ?_
  refine g_aload X4 hx (D d33_83) rfl rfl ?_
  refine g_getF X4 hx hZ hown (Wd103 hw) e4 O_a4.2.2.2.2.1 (D d33_85) (fun T5 X5 e5 => ?_)
  refine g_astore X5 hx #[vr a1, vr a2, vr a3, vn, vi 0, vr a4, vr a5, vn, vn, vr a7, vu, vu, vu, vu, vu] (D d33_88) rfl rfl ?_
  refine g_aload X5 hx (D d33_90) rfl rfl ?_
  refine g_S X5 hx hZ hown (lk6 hw) (rm_keyOf_12 hw  h0 n0 Z0 ) e5 (D d33_92) hml.symm rfl rfl (Nat.le_refl _) (by decide) (fun v6 T6 L6 X6 q6 => ?_)
  obtain ⟨rfl, M6, e6⟩ := q6
  have N6 := Fr.app N0 M6
  refine g_astore X6 hx #[vr a1, vr a2, vr a3, vn, vi 0, vr a4, vr a5, vn, vn, vr a7, vn, vu, vu, vu, vu] (D d33_95) rfl rfl ?_
  refine g_aload X6 hx (D d33_97) rfl rfl ?_
  refine g_S X6 hx hZ hown (lk6 hw) (rm_keyOf_44 hw a7 a8 a9 a4 h0 n0 Z0 O_a7) e6 (D d33_99) hml.symm rfl rfl (Nat.le_refl _) (by decide) (fun v7 T7 L7 X7 q7 => ?_)
  obtain ⟨rfl, M7, e7⟩ := q7
  have N7 := Fr.app N6 M7
  refine g_astore X7 hx #[vr a1, vr a2, vr a3, vn, vi 0, vr a4, vr a5, vn, vn, vr a7, vn, vr a8, vu, vu, vu] (D d33_102) rfl rfl ?_
  refine g_aloadN X7 hx (D d33_104) rfl rfl ?_
  refine g_aloadN X7 hx (D d33_105) rfl rfl ?_
  refine g_aload X7 hx (D d33_106) rfl rfl ?_
  refine g_V X7 hx hZ hown (lk10 hw) (rm_compare_70 hw a1 a2 a5 a4 i1 i2 i3 h0 n0 Z0 O_a1 O_a2 O_a5 hk0 hk1) e7 O_a1.1 (D d33_108) hml.symm rfl rfl (Nat.le_refl _) (by decide) (fun v8 T8 L8 X8 q8 => ?_)
  obtain ⟨rfl, M8, e8⟩ := q8
  have N8 := Fr.app N7 M8
  refine g_istore X8 hx #[vr a1, vr a2, vr a3, vn, vi 0, vr a4, vr a5, vn, vn, vr a7, vn, vr a8, vi 1, vu, vu] (D d33_111) rfl ?_
  refine g_iload X8 hx (D d33_113) rfl ?_
  refine g_ifYes X8 hx 137 (D d33_115) ((if0 _ _).trans (feq ((by decide) : ¬ ((1 : Int32) = (0 : Int32)))).2) (by decide) (by decide) ?_
  refine g_aload X8 hx (D d33_137) rfl rfl ?_
  refine g_astoreN X8 hx #[vr a1, vr a2, vr a3, vr a4, vi 0, vr a4, vr a5, vn, vn, vr a7, vn, vr a8, vi 1, vu, vu] (D d33_139) rfl rfl ?_
  refine g_iload X8 hx (D d33_140) rfl ?_
  refine g_istore X8 hx #[vr a1, vr a2, vr a3, vr a4, vi 1, vr a4, vr a5, vn, vn, vr a7, vn, vr a8, vi 1, vu, vu] (D d33_142) rfl ?_
  refine g_iload X8 hx (D d33_144) rfl ?_
  refine g_ifYes X8 hx 155 (D d33_146) ((if0 _ _).trans (flt ((by decide) : ¬ ((1 : Int32) < (0 : Int32)))).2.1) (by decide) (by decide) ?_
  refine g_iload X8 hx (D d33_155) rfl ?_
  refine g_ifYes X8 hx 165 (D d33_157) ((if0 _ _).trans (flt ((by decide) : ¬ ((1 : Int32) < (0 : Int32)))).2.1) (by decide) (by decide) ?_
  refine g_aload X8 hx (D d33_165) rfl rfl ?_
  refine g_astore X8 hx #[vr a1, vr a2, vr a3, vr a4, vi 1, vr a7, vr a5, vn, vn, vr a7, vn, vr a8, vi 1, vu, vu] (D d33_167) rfl rfl ?_
  refine g_iload X8 hx (D d33_169) rfl ?_
  refine g_ifYes X8 hx 179 (D d33_171) ((if0 _ _).trans (flt ((by decide) : ¬ ((1 : Int32) < (0 : Int32)))).2.1) (by decide) (by decide) ?_
  refine g_aload X8 hx (D d33_179) rfl rfl ?_
  refine g_astore X8 hx #[vr a1, vr a2, vr a3, vr a4, vi 1, vr a7, vr a8, vn, vn, vr a7, vn, vr a8, vi 1, vu, vu] (D d33_181) rfl rfl ?_
  refine g_goto X8 hx 71 (D d33_183) (by decide) (by decide) ?_
  refine g_aload X8 hx (D d33_71) rfl rfl ?_
  refine g_nullNo X8 hx (D d33_73) ?_
  refine g_aload X8 hx (D d33_76) rfl rfl ?_
  refine g_getF X8 hx hZ hown (Wd101 hw) e8 O_a7.2.2.2.1 (D d33_78) (fun T9 X9 e9 => ?_)
  refine g_astore X9 hx #[vr a1, vr a2, vr a3, vr a4, vi 1, vr a7, vr a8, vn, vn, vr a7, vn, vr a8, vi 1, vu, vu] (D d33_81) rfl rfl ?_
  refine g_aload X9 hx (D d33_83) rfl rfl ?_
  refine g_getF X9 hx hZ hown (Wd103 hw) e9 O_a7.2.2.2.2.1 (D d33_85) (fun T10 X10 e10 => ?_)
  refine g_astore X10 hx #[vr a1, vr a2, vr a3, vr a4, vi 1, vr a7, vr a8, vn, vn, vn, vn, vr a8, vi 1, vu, vu] (D d33_88) rfl rfl ?_
  refine g_aload X10 hx (D d33_90) rfl rfl ?_
  refine g_S X10 hx hZ hown (lk6 hw) (rm_keyOf_12 hw  h0 n0 Z0 ) e10 (D d33_92) hml.symm rfl rfl (Nat.le_refl _) (by decide) (fun v11 T11 L11 X11 q11 => ?_)
  obtain ⟨rfl, M11, e11⟩ := q11
  have N11 := Fr.app N8 M11
  refine g_astore X11 hx #[vr a1, vr a2, vr a3, vr a4, vi 1, vr a7, vr a8, vn, vn, vn, vn, vr a8, vi 1, vu, vu] (D d33_95) rfl rfl ?_
  refine g_aload X11 hx (D d33_97) rfl rfl ?_
  refine g_S X11 hx hZ hown (lk6 hw) (rm_keyOf_12 hw  h0 n0 Z0 ) e11 (D d33_99) hml.symm rfl rfl (Nat.le_refl _) (by decide) (fun v12 T12 L12 X12 q12 => ?_)
  obtain ⟨rfl, M12, e12⟩ := q12
  have N12 := Fr.app N11 M12
  refine g_astore X12 hx #[vr a1, vr a2, vr a3, vr a4, vi 1, vr a7, vr a8, vn, vn, vn, vn, vn, vi 1, vu, vu] (D d33_102) rfl rfl ?_
  refine g_aloadN X12 hx (D d33_104) rfl rfl ?_
  refine g_aloadN X12 hx (D d33_105) rfl rfl ?_
  refine g_aload X12 hx (D d33_106) rfl rfl ?_
  refine g_V X12 hx hZ hown (lk10 hw) (rm_compare_45 hw a1 a2 a8 a4 i1 i2 i4 h0 n0 Z0 O_a1 O_a2 O_a8 hk2) e12 O_a1.1 (D d33_108) hml.symm rfl rfl (Nat.le_refl _) (by decide) (fun v13 T13 L13 X13 q13 => ?_)
  obtain ⟨rfl, M13, e13⟩ := q13
  have N13 := Fr.app N12 M13
  refine g_istore X13 hx #[vr a1, vr a2, vr a3, vr a4, vi 1, vr a7, vr a8, vn, vn, vn, vn, vn, vi (-1), vu, vu] (D d33_111) rfl ?_
  refine g_iload X13 hx (D d33_113) rfl ?_
  refine g_ifYes X13 hx 137 (D d33_115) ((if0 _ _).trans (feq ((by decide) : ¬ ((-1 : Int32) = (0 : Int32)))).2) (by decide) (by decide) ?_
  refine g_aload X13 hx (D d33_137) rfl rfl ?_
  refine g_astoreN X13 hx #[vr a1, vr a2, vr a3, vr a7, vi 1, vr a7, vr a8, vn, vn, vn, vn, vn, vi (-1), vu, vu] (D d33_139) rfl rfl ?_
  refine g_iload X13 hx (D d33_140) rfl ?_
  refine g_istore X13 hx #[vr a1, vr a2, vr a3, vr a7, vi (-1), vr a7, vr a8, vn, vn, vn, vn, vn, vi (-1), vu, vu] (D d33_142) rfl ?_
  refine g_iload X13 hx (D d33_144) rfl ?_
  refine g_ifNo X13 hx (D d33_146) ((if0 _ _).trans (tlt ((by decide) : (-1 : Int32) < (0 : Int32))).2.1) ?_
  refine g_aload X13 hx (D d33_149) rfl rfl ?_
  refine g_iconst X13 hx (1 : Int32) (D d33_151) (by decide) ?_
  refine g_S X13 hx hZ hown (lk11 hw) (rm_addToLeftCount_47 hw a7 a8 a9 a4 h0 n0 Z0 O_a7 g_a7) e13 (D d33_152) hml.symm rfl rfl (Nat.le_refl _) (by decide) (fun v14 T14 L14 X14 q14 => ?_)
  obtain ⟨rfl, M14, Kc14, Rk14_0⟩ := q14
  have N14 := Fr.app N13 M14
  have O_a1_14 := R_MP_keep O_a1 Kc14 (own_nin ne_a1_a7 nl)
  have O_a4_14 := R_ND_keep O_a4 Kc14 (own_nin ne_a4_a7 nl)
  have K14 := Keep.trans K0 Kc14 (own_memc (mw 2 rfl) own_memn)
  have Z14 : n0 ≤ T14.heap.size := Nat.le_trans Z0 Kc14.1
  refine g_iload X14 hx (D d33_155) rfl ?_
  refine g_ifNo X14 hx (D d33_157) ((if0 _ _).trans (tlt ((by decide) : (-1 : Int32) < (0 : Int32))).2.1) ?_
  refine g_aload X14 hx (D d33_160) rfl rfl ?_
  refine g_goto X14 hx 167 (D d33_162) (by decide) (by decide) ?_
  refine g_astore X14 hx #[vr a1, vr a2, vr a3, vr a7, vi (-1), vn, vr a8, vn, vn, vn, vn, vn, vi (-1), vu, vu] (D d33_167) rfl rfl ?_
  refine g_iload X14 hx (D d33_169) rfl ?_
  refine g_ifNo X14 hx (D d33_171) ((if0 _ _).trans (tlt ((by decide) : (-1 : Int32) < (0 : Int32))).2.1) ?_
  refine g_aload X14 hx (D d33_174) rfl rfl ?_
  refine g_goto X14 hx 181 (D d33_176) (by decide) (by decide) ?_
  refine g_astore X14 hx #[vr a1, vr a2, vr a3, vr a7, vi (-1), vn, vn, vn, vn, vn, vn, vn, vi (-1), vu, vu] (D d33_181) rfl rfl ?_
  refine g_goto X14 hx 71 (D d33_183) (by decide) (by decide) ?_
  refine g_aload X14 hx (D d33_71) rfl rfl ?_
  refine g_nullYes X14 hx 186 (D d33_73) (by decide) (by decide) ?_
  refine g_aloadN X14 hx (D d33_186) rfl rfl ?_
  refine g_aloadN X14 hx (D d33_187) rfl rfl ?_
  refine g_aloadN X14 hx (D d33_188) rfl rfl ?_
  refine g_aloadN X14 hx (D d33_189) rfl rfl ?_
  refine g_V X14 hx hZ hown (lk13 hw) (rm_newNode_18 hw a1 a2 a3 a7 T14.heap n0 Z14 ) (rfl : T14.heap = T14.heap) O_a1_14.1 (D d33_190) hml.symm rfl rfl (Nat.le_refl _) (by decide) (fun v15 T15 L15 X15 q15 => ?_)
  obtain ⟨b15_0, rfl, M15, Kc15, zb15_0, Rk15_0⟩ := q15
  have N15 := Fr.app N14 M15
  have ne_a1_b15_0 : a1 ≠ b15_0 := Nat.ne_of_lt (Nat.lt_of_lt_of_le O_a1_14.1.lt zb15_0)
  have ne_a4_b15_0 : a4 ≠ b15_0 := Nat.ne_of_lt (Nat.lt_of_lt_of_le O_a4_14.1.lt zb15_0)
  have ne_a7_b15_0 : a7 ≠ b15_0 := Nat.ne_of_lt (Nat.lt_of_lt_of_le Rk14_0.1.lt zb15_0)
  have g_b15_0 : n0 ≤ b15_0 := Nat.le_trans Z14 zb15_0
  have sz_b15_0 : h0.size ≤ b15_0 := Nat.le_trans K14.1 zb15_0
  have O_a1_15 := R_MP_keep O_a1_14 Kc15 nl
  have O_a4_15 := R_ND_keep O_a4_14 Kc15 nl
  have O_a7_15 := R_ND_keep Rk14_0 Kc15 nl
  have K15 := Keep.trans K14 Kc15 own_memn
  have Z15 : n0 ≤ T15.heap.size := Nat.le_trans Z14 Kc15.1
  refine g_astore X15 hx #[vr a1, vr a2, vr a3, vr a7, vi (-1), vn, vn, vr b15_0, vn, vn, vn, vn, vi (-1), vu, vu] (D d33_193) rfl rfl ?_
  refine g_aload X15 hx (D d33_195) rfl rfl ?_
  refine g_nonnullYes X15 hx 227 (D d33_197) (by decide) (by decide) ?_
  refine g_iload X15 hx (D d33_227) rfl ?_
  refine g_ifNo X15 hx (D d33_229) ((if0 _ _).trans (tlt ((by decide) : (-1 : Int32) < (0 : Int32))).2.1) ?_
  refine g_aloadN X15 hx (D d33_232) rfl rfl ?_
  refine g_aload X15 hx (D d33_233) rfl rfl ?_
  refine g_putF X15 hx hZ hown (Wd101 hw) (rfl : T15.heap = T15.heap) O_a7_15.2.2.2.1 O_a7_15.1 (Or.inl (Wd102 hw)) (Wd76 hw) fd_2 rfl rfl (D d33_235) (fun T16 h16 X16 e16 W16 => ?_)
  have N16 := Fr.snoc X16 N15 g_a7
  have O_a1_16 := R_MP_other W16 O_a1_15 ne_a1_a7
  have O_a4_16 := R_ND_other W16 O_a4_15 ne_a4_a7
  have O_a7_16 := R_ND_set_left hw W16 O_a7_15
  have O_b15_0_16 := R_ND_other W16 Rk15_0 ne_a7_b15_0.symm
  have Z16 : n0 ≤ h16.size := Nat.le_trans Z15 (Nat.le_of_eq W16.size.symm)
  have K16 := Keep.wr K15 W16 (mw 2 rfl)
  refine g_goto X16 hx 247 (D d33_238) (by decide) (by decide) ?_
  refine g_aloadN X16 hx (D d33_247) rfl rfl ?_
  refine g_dup X16 hx (D d33_248) rfl ?_
  refine g_getF X16 hx hZ hown (Wd96 hw) e16 O_a1_16.2.2.2.1 (D d33_249) (fun T17 X17 e17 => ?_)
  refine g_iconst X17 hx (1 : Int32) (D d33_252) (by decide) ?_
  refine g_iadd X17 hx (D d33_253) ?_
  show Go p e below (T17.setTop (mkF m 254 #[vr a1, vr a2, vr a3, vr a7, vi (-1), vn, vn, vr b15_0, vn, vn, vn, vn, vi (-1), vu, vu] [(.int ((2 : Int32) + (1 : Int32))), (.ref a1)])) _
  rw [show ((2 : Int32) + (1 : Int32)) = (3 : Int32) from by decide]
  refine g_putF X17 hx hZ hown (Wd96 hw) e17 O_a1_16.2.2.2.1 O_a1_16.1 (Or.inl (Wd97 hw)) (Wd2 hw) fd_0 rfl rfl (D d33_254) (fun T18 h18 X18 e18 W18 => ?_)
  have N18 := Fr.snoc X18 N16 g_a1
  have O_a1_18 := R_MP_set_size hw W18 O_a1_16
  have O_a4_18 := R_ND_other W18 O_a4_16 ne_a1_a4.symm
  have O_a7_18 := R_ND_other W18 O_a7_16 ne_a1_a7.symm
  have O_b15_0_18 := R_ND_other W18 O_b15_0_16 ne_a1_b15_0.symm
  have Z18 : n0 ≤ h18.size := Nat.le_trans Z16 (Nat.le_of_eq W18.size.symm)
  have K18 := Keep.wr K16 W18 (mw 0 rfl)
  refine g_aloadN X18 hx (D d33_257) rfl rfl ?_
  refine g_aloadN X18 hx (D d33_258) rfl rfl ?_
  refine g_V X18 hx hZ hown (lk14 hw) (rm_refreshToRoot_20 hw a1 a7 h18 n0 Z18 ) e18 O_a1_18.1 (D d33_259) hml.symm rfl rfl (Nat.le_refl _) (by decide) (fun v19 T19 L19 X19 q19 => ?_)
  obtain ⟨rfl, M19, e19⟩ := q19
  have N19 := Fr.app N18 M19
  refine g_aloadN X19 hx (D d33_262) rfl rfl ?_
  refine g_aload X19 hx (D d33_263) rfl rfl ?_
  refine g_P X19 hx hZ hown (lk17 hw) (rm_balanceAfterInsert_96 hw a1 b15_0 a4 i1 a2 a3 a7 a5 a6 i2 a8 a9 i3 i4 h18 n0 Z18 O_a1_18 O_b15_0_18 O_a4_18 O_a7_18 ne_a1_b15_0 ne_a1_a4 ne_a1_a7 ne_a4_b15_0.symm ne_a7_b15_0.symm ne_a4_a7 g_a1 g_b15_0 g_a4 g_a7 hk0 hk1 hk2) e19 O_a1_18.1 (D d33_265) hml.symm rfl rfl (Nat.le_refl _) (by decide) (fun v20 T20 L20 X20 q20 => ?_)
  obtain ⟨rfl, M20, Kc20, Rk20_0, Rk20_1, Rk20_2, Rk20_3⟩ := q20
  have N20 := Fr.app N19 M20
  have K20 := Keep.trans K18 Kc20 (own_memc (mw 0 rfl) (own_memc (Or.inr sz_b15_0) (own_memc (mw 1 rfl) (own_memc (mw 2 rfl) own_memn))))
  refine g_aloadN X20 hx (D d33_268) rfl rfl ?_
  refine g_dup X20 hx (D d33_269) rfl ?_
  refine g_getF X20 hx hZ hown (Wd98 hw) (rfl : T20.heap = T20.heap) Rk20_0.2.2.2.2 (D d33_270) (fun T21 X21 e21 => ?_)
  refine g_iconst X21 hx (1 : Int32) (D d33_273) (by decide) ?_
  refine g_iadd X21 hx (D d33_274) ?_
  refine g_putF X21 hx hZ hown (Wd98 hw) e21 Rk20_0.2.2.2.2 Rk20_0.1 (Or.inl (Wd99 hw)) (Wd2 hw) fd_0 rfl rfl (D d33_275) (fun T22 h22 X22 e22 W22 => ?_)
  have N22 := Fr.snoc X22 N20 g_a1
  have O_a1_22 := R_MP_set_modCount hw W22 Rk20_0
  have O_b15_0_22 := R_ND_other W22 Rk20_1 ne_a1_b15_0.symm
  have O_a4_22 := R_ND_other W22 Rk20_2 ne_a1_a4.symm
  have O_a7_22 := R_ND_other W22 Rk20_3 ne_a1_a7.symm
  have K22 := Keep.wr K20 W22 (mw 0 rfl)
  refine g_null X22 hx (D d33_278) ?_
  exact own_retA X22 hx hret hlk rfl rfl (D d33_279) (by decide) (by decide) (by rw [e22]; exact ⟨b15_0, rfl, N22, K22, sz_b15_0, O_a1_22, O_a4_22, O_a7_22, O_b15_0_22⟩)
theorem rm_put_94 (hw : HW a0 Z) (a1 a2 : Addr) (a3 a4 : Addr) (i1 i2 : Int32) (a5 a6 a7 : Addr) (i3 : Int32) (a8 a9 : Addr) (i4 : Int32) (h0 : Heap) (n0 : Nat) (Z0 : n0 ≤ h0.size) (O_a1 : R_MP Z h0 a1 .null (.ref a4) (.int 2) (.int i1)) (O_a2 : R_IN Z h0 a2 (.int i2)) (O_a4 : R_ND Z h0 a4 (.ref a5) (.ref a6) .null (.ref a7) .null (.int 0)) (O_a5 : R_IN Z h0 a5 (.int i3)) (O_a7 : R_ND Z h0 a7 (.ref a8) (.ref a9) .null .null (.ref a4) (.int (-2147483648))) (O_a8 : R_IN Z h0 a8 (.int i4)) (ne_a1_a4 : a1 ≠ a4) (ne_a1_a7 : a1 ≠ a7) (ne_a4_a7 : a4 ≠ a7) (g_a1 : n0 ≤ a1) (g_a4 : n0 ≤ a4) (g_a7 : n0 ≤ a7) (hk0 : ¬ (i2 < i3)) (hk1 : ¬ (i2 = i3)) (hk2 : i2 < i4) :
    Ctr l Y20 B19 4 (some F3_) [] (rmk 5 1 6 79) Z #[(.ref a1), (.ref a2), (.ref a3)] h0 (fun v h L => ∃ f1, v = some .null ∧ Fr n0 L ∧ Keep h0 h [a1, a4, a7] ∧ h0.size ≤ f1 ∧ R_MP Z h a1 .null (.ref f1) (.int 3) (.int (i1 + (1 : Int32))) ∧ R_ND Z h a4 (.ref a5) (.ref a6) .null .null (.ref f1) (.int (-2147483648)) ∧ R_ND Z h a7 (.ref a8) (.ref a9) .null .null (.ref f1) (.int (-2147483648)) ∧ R_ND Z h f1 (.ref a2) (.ref a3) (.ref a4) (.ref a7) .null (.int 1)) := by
  refine own_enter pn_2 (fun p e s m below meth c s₁ hx hby hml hown hnm hret hlk hZ X0 e0 => ?_)
  have N0 := Fr.nil n0
  have K0 := Keep.refl h0 [a1, a4, a7]
  rw [ef_7_RRR m _ _ _]
  refine g_aloadN X0 hx (hb hby d7_0) rfl rfl ?_
  refine g_aloadN X0 hx (hb hby d7_1) rfl rfl ?_
  refine g_aloadN X0 hx (hb hby d7_2) rfl rfl ?_
  refine g_PH X0 hx hZ hown (lk18 hw) (rm_addIfAbsent_95 hw a1 a2 a3 a4 i1 i2 a5 a6 a7 i3 a8 a9 i4 h0 n0 Z0 O_a1 O_a2 O_a4 O_a5 O_a7 O_a8 ne_a1_a4 ne_a1_a7 ne_a4_a7 g_a1 g_a4 g_a7 hk0 hk1 hk2) e0 O_a1.1 (hb hby d7_3) hml.symm rfl rfl (Nat.le_refl _) (by decide) (fun v1 T1 L1 X1 q1 => ?_)
  obtain ⟨b1_0, rfl, M1, Kc1, zb1_0, Rk1_0, Rk1_1, Rk1_2, Rk1_3⟩ := q1
  have N1 := Fr.app N0 M1
  have sz_b1_0 : h0.size ≤ b1_0 := Nat.le_trans K0.1 zb1_0
  have K1 := Keep.trans K0 Kc1 (own_memc (mw 0 rfl) (own_memc (mw 1 rfl) (own_memc (mw 2 rfl) own_memn)))
  refine g_astoreN X1 hx #[vr a1, vr a2, vr a3, vn] (hb hby d7_6) rfl rfl ?_
  refine g_aloadN X1 hx (hb hby d7_7) rfl rfl ?_
  refine g_nonnullNo X1 hx (hb hby d7_8) ?_
  refine g_null X1 hx (hb hby d7_11) ?_
  refine g_goto X1 hx 21 (hb hby d7_12) (by decide) (by decide) ?_
  exact own_retA X1 hx hret hlk rfl rfl (hb hby d7_21) (by decide) (by decide) (by rw [(rfl : T1.heap = T1.heap)]; exact ⟨b1_0, rfl, N1, K1, sz_b1_0, Rk1_0, Rk1_1, Rk1_2, Rk1_3⟩)
theorem rm_countAbove_109 (hw : HW a0 Z) (a1 a2 : Addr) (a3 a4 : Addr) (h0 : Heap) (n0 : Nat) (Z0 : n0 ≤ h0.size) (O_a1 : R_ND Z h0 a1 (.ref a2) (.ref a3) .null (.ref a4) .null (.int 0)) :
    Ctr l Y28 B27 4 none [] (rmk 0 0 0 0) Z #[(.ref a1), (.int (-1))] h0 (fun v h L => v = none ∧ Fr n0 L ∧ h = h0) := by
  refine own_enter pn_2 (fun p e s m below meth c s₁ hx hby hml hown hnm hret hlk hZ X0 e0 => ?_)
  have N0 := Fr.nil n0
  have K0 := Keep.refl h0 []
  rw [ef_29_RI m _ _]
  refine g_aloadN X0 hx (hb hby d29_0) rfl rfl ?_
  refine g_astoreN X0 hx #[vr a1, vi (-1), vr a1, vu] (hb hby d29_1) rfl rfl ?_
  refine g_aloadN X0 hx (hb hby d29_2) rfl rfl ?_
  refine g_getF X0 hx hZ hown (Wd117 hw) e0 O_a1.2.2.2.2.2.1 (hb hby d29_3) (fun T1 X1 e1 => ?_)
  refine g_astoreN X1 hx #[vr a1, vi (-1), vr a1, vn] (hb hby d29_6) rfl rfl ?_
  refine g_aloadN X1 hx (hb hby d29_7) rfl rfl ?_
  refine g_nullYes X1 hx 34 (hb hby d29_8) (by decide) (by decide) ?_
  exact own_retV X1 hx hret hlk (hb hby d29_34) (by decide) (by decide) ⟨rfl, N0, e1⟩
theorem rm_countPlace_108 (hw : HW a0 Z) (a1 a2 : Addr) (a3 a4 : Addr) (h0 : Heap) (n0 : Nat) (Z0 : n0 ≤ h0.size) (O_a1 : R_ND Z h0 a1 (.ref a2) (.ref a3) .null (.ref a4) .null (.int 0)) :
    Ctr l Y21 B20 3 none [] (rmk 1 0 0 15) Z #[(.ref a1), (.int 1), (.int (-1))] h0 (fun v h L => v = none ∧ Fr n0 L ∧ h = h0) := by
  refine own_enter pn_2 (fun p e s m below meth c s₁ hx hby hml hown hnm hret hlk hZ X0 e0 => ?_)
  have N0 := Fr.nil n0
  have K0 := Keep.refl h0 []
  rw [ef_28_RII m _ _ _]
  refine g_aloadN X0 hx (hb hby d28_0) rfl rfl ?_
  refine g_nonnullYes X0 hx 5 (hb hby d28_1) (by decide) (by decide) ?_
  refine g_iloadN X0 hx (hb hby d28_5) rfl ?_
  refine g_ifYes X0 hx 14 (hb hby d28_6) ((if0 _ _).trans (flt ((by decide) : ¬ ((1 : Int32) < (0 : Int32)))).2.1) (by decide) (by decide) ?_
  refine g_aloadN X0 hx (hb hby d28_14) rfl rfl ?_
  refine g_iloadN X0 hx (hb hby d28_15) rfl ?_
  refine g_S X0 hx hZ hown (lk27 hw) (rm_countAbove_109 hw a1 a2 a3 a4 h0 n0 Z0 O_a1) e0 (hb hby d28_16) hml.symm rfl rfl (Nat.le_refl _) (by decide) (fun v1 T1 L1 X1 q1 => ?_)
  obtain ⟨rfl, M1, e1⟩ := q1
  have N1 := Fr.app N0 M1
  exact own_retV X1 hx hret hlk (hb hby d28_19) (by decide) (by decide) ⟨rfl, N1, e1⟩
theorem rm_addIfAbsent_107 (hw : HW a0 Z) (a1 a2 : Addr) (a3 a4 : Addr) (i1 i2 : Int32) (a5 a6 a7 : Addr) (i3 : Int32) (a8 a9 : Addr) (i4 : Int32) (h0 : Heap) (n0 : Nat) (Z0 : n0 ≤ h0.size) (O_a1 : R_MP Z h0 a1 .null (.ref a4) (.int 2) (.int i1)) (O_a2 : R_IN Z h0 a2 (.int i2)) (O_a4 : R_ND Z h0 a4 (.ref a5) (.ref a6) .null (.ref a7) .null (.int 0)) (O_a5 : R_IN Z h0 a5 (.int i3)) (O_a7 : R_ND Z h0 a7 (.ref a8) (.ref a9) .null .null (.ref a4) (.int (-2147483648))) (O_a8 : R_IN Z h0 a8 (.int i4)) (hk0 : ¬ (i2 < i3)) (hk1 : ¬ (i2 = i3)) (hk2 : ¬ (i2 < i4)) (hk3 : i2 = i4) :
    CtrH l Y19 B18 15 (some F1_) [(71, 122, 210, 0), (137, 195, 210, 0), (210, 212, 210, 0)] (rmk 4 0 0 53) Z #[(.ref a1), (.ref a2), (.ref a3)] h0 (fun v h L => v = some (.ref a7) ∧ Fr n0 L ∧ h = h0) := by
  refine own_enterH pn_2 (fun p e s m below meth c s₁ hx hby hml hown hnm hret hlk hZ X0 e0 => ?_)
  have D {q : Nat} {r} (z : decode B18 q = r) : decode c.code q = r := hb hby z
  have N0 := Fr.nil n0
  have K0 := Keep.refl h0 []
  rw [ef_33_RRR m _ _ _]
  refine g_aloadN X0 hx (D d33_0) rfl rfl ?_
  refine g_getF X0 hx hZ hown (Wd25 hw) e0 O_a1.2.2.1 (D d33_1) (fun T1 X1 e1 => ?_)
  refine g_nonnullYes X1 hx 50 (D d33_4) (by decide) (by decide) ?_
  refine g_null X1 hx (D d33_50) ?_
  refine g_astoreN X1 hx #[vr a1, vr a2, vr a3, vn, vu, vu, vu, vu, vu, vu, vu, vu, vu, vu, vu] (D d33_51) rfl rfl ?_
  refine g_iconst X1 hx (0 : Int32) (D d33_52) (by decide) ?_
  refine g_istore X1 hx #[vr a1, vr a2, vr a3, vn, vi 0, vu, vu, vu, vu, vu, vu, vu, vu, vu, vu] (D d33_53) rfl ?_
  refine g_aloadN X1 hx (D d33_55) rfl rfl ?_
  refine g_getF X1 hx hZ hown (Wd25 hw) e1 O_a1.2.2.1 (D d33_56) (fun T2 X2 e2 => ?_)
  refine g_astore X2 hx #[vr a1, vr a2, vr a3, vn, vi 0, vr a4, vu, vu, vu, vu, vu, vu, vu, vu, vu] (D d33_59) rfl rfl ?_
  refine g_aload X2 hx (D d33_61) rfl rfl ?_
  refine g_getF X2 hx hZ hown (Wd100 hw) e2 O_a4.2.1 (D d33_63) (fun T3 X3 e3 => ?_)
  refine g_astore X3 hx #[vr a1, vr a2, vr a3, vn, vi 0, vr a4, vr a5, vu, vu, vu, vu, vu, vu, vu, vu] (D d33_66) rfl rfl ?_
  refine g_null X3 hx (D d33_68) ?_
  refine g_astore X3 hx #[vr a1, vr a2, vr a3, vn, vi 0, vr a4, vr a5, vn, vu, vu, vu, vu, vu, vu, vu] (D d33_69) rfl rfl ?_
  refine g_aload X3 hx (D d33_71) rfl rfl ?_
  refine g_nullNo X3 hx (D d33_73) ?_
  refine g_aload X3 hx (D d33_76) rfl rfl ?_
  refine g_getF X3 hx hZ hown (Wd101 hw) e3 O_a4.2.2.2.1 (D d33_78) (fun T4 X4 e4 => ?_)
  refine g_astore X4 hx #[vr a1, vr a2, vr a3, vn, vi 0, vr a4, vr a5, vn, vn, vu, vu, vu, vu, vu, vu] (D d33_81) rfl rfl ?_
  refine g_aload X4 hx (D d33_83) rfl rfl ?_
  refine g_getF X4 hx hZ hown (Wd103 hw) e4 O_a4.2.2.2.2.1 (D d33_85) (fun T5 X5 e5 => ?_)
  refine g_astore X5 hx #[vr a1, vr a2, vr a3, vn, vi 0, vr a4, vr a5, vn, vn, vr a7, vu, vu, vu, vu, vu] (D d33_88) rfl rfl ?_
  refine g_aload X5 hx (D d33_90) rfl rfl ?_
  refine g_S X5 hx hZ hown (lk6 hw) (rm_keyOf_12 hw  h0 n0 Z0 ) e5 (D d33_92) hml.symm rfl rfl (Nat.le_refl _) (by decide) (fun v6 T6 L6 X6 q6 => ?_)
  obtain ⟨rfl, M6, e6⟩ := q6
  have N6 := Fr.app N0 M6
  refine g_astore X6 hx #[vr a1, vr a2, vr a3, vn, vi 0, vr a4, vr a5, vn, vn, vr a7, vn, vu, vu, vu, vu] (D d33_95) rfl rfl ?_
  refine g_aload X6 hx (D d33_97) rfl rfl ?_
  refine g_S X6 hx hZ hown (lk6 hw) (rm_keyOf_44 hw a7 a8 a9 a4 h0 n0 Z0 O_a7) e6 (D d33_99) hml.symm rfl rfl (Nat.le_refl _) (by decide) (fun v7 T7 L7 X7 q7 => ?_)
  obtain ⟨rfl, M7, e7⟩ := q7
  have N7 := Fr.app N6 M7
  refine g_astore X7 hx #[vr a1, vr a2, vr a3, vn, vi 0, vr a4, vr a5, vn, vn, vr a7, vn, vr a8, vu, vu, vu] (D d33_102) rfl rfl ?_
  refine g_aloadN X7 hx (D d33_104) rfl rfl ?_
  refine g_aloadN X7 hx (D d33_105) rfl rfl ?_
  refine g_aload X7 hx (D d33_106) rfl rfl ?_
  refine g_V X7 hx hZ hown (lk10 hw) (rm_compare_70 hw a1 a2 a5 a4 i1 i2 i3 h0 n0 Z0 O_a1 O_a2 O_a5 hk0 hk1) e7 O_a1.1 (D d33_108) hml.symm rfl rfl (Nat.le_refl _) (by decide) (fun v8 T8 L8 X8 q8 => ?_)
  obtain ⟨rfl, M8, e8⟩ := q8
  have N8 := Fr.app N7 M8
  refine g_istore X8 hx #[vr a1, vr a2, vr a3, vn, vi 0, vr a4, vr a5, vn, vn, vr a7, vn, vr a8, vi 1, vu, vu] (D d33_111) rfl ?_
  refine g_iload X8 hx (D d33_113) rfl ?_
  refine g_ifYes X8 hx 137 (D d33_115) ((if0 _ _).trans (feq ((by decide) : ¬ ((1 : Int32) = (0 : Int32)))).2) (by decide) (by decide) ?_
  refine g_aload X8 hx (D d33_137) rfl rfl ?_
  refine g_astoreN X8 hx #[vr a1, vr a2, vr a3, vr a4, vi 0, vr a4, vr a5, vn, vn, vr a7, vn, vr a8, vi 1, vu, vu] (D d33_139) rfl rfl ?_
  refine g_iload X8 hx (D d33_140) rfl ?_
  refine g_istore X8 hx #[vr a1, vr a2, vr a3, vr a4, vi 1, vr a4, vr a5, vn, vn, vr a7, vn, vr a8, vi 1, vu, vu] (D d33_142) rfl ?_
  refine g_iload X8 hx (D d33_144) rfl ?_
  refine g_ifYes X8 hx 155 (D d33_146) ((if0 _ _).trans (flt ((by decide) : ¬ ((1 : Int32) < (0 : Int32)))).2.1) (by decide) (by decide) ?_
  refine g_iload X8 hx (D d33_155) rfl ?_
  refine g_ifYes X8 hx 165 (D d33_157) ((if0 _ _).trans (flt ((by decide) : ¬ ((1 : Int32) < (0 : Int32)))).2.1) (by decide) (by decide) ?_
  refine g_aload X8 hx (D d33_165) rfl rfl ?_
  refine g_astore X8 hx #[vr a1, vr a2, vr a3, vr a4, vi 1, vr a7, vr a5, vn, vn, vr a7, vn, vr a8, vi 1, vu, vu] (D d33_167) rfl rfl ?_
  refine g_iload X8 hx (D d33_169) rfl ?_
  refine g_ifYes X8 hx 179 (D d33_171) ((if0 _ _).trans (flt ((by decide) : ¬ ((1 : Int32) < (0 : Int32)))).2.1) (by decide) (by decide) ?_
  refine g_aload X8 hx (D d33_179) rfl rfl ?_
  refine g_astore X8 hx #[vr a1, vr a2, vr a3, vr a4, vi 1, vr a7, vr a8, vn, vn, vr a7, vn, vr a8, vi 1, vu, vu] (D d33_181) rfl rfl ?_
  refine g_goto X8 hx 71 (D d33_183) (by decide) (by decide) ?_
  refine g_aload X8 hx (D d33_71) rfl rfl ?_
  refine g_nullNo X8 hx (D d33_73) ?_
  refine g_aload X8 hx (D d33_76) rfl rfl ?_
  refine g_getF X8 hx hZ hown (Wd101 hw) e8 O_a7.2.2.2.1 (D d33_78) (fun T9 X9 e9 => ?_)
  refine g_astore X9 hx #[vr a1, vr a2, vr a3, vr a4, vi 1, vr a7, vr a8, vn, vn, vr a7, vn, vr a8, vi 1, vu, vu] (D d33_81) rfl rfl ?_
  refine g_aload X9 hx (D d33_83) rfl rfl ?_
  refine g_getF X9 hx hZ hown (Wd103 hw) e9 O_a7.2.2.2.2.1 (D d33_85) (fun T10 X10 e10 => ?_)
  refine g_astore X10 hx #[vr a1, vr a2, vr a3, vr a4, vi 1, vr a7, vr a8, vn, vn, vn, vn, vr a8, vi 1, vu, vu] (D d33_88) rfl rfl ?_
  refine g_aload X10 hx (D d33_90) rfl rfl ?_
  refine g_S X10 hx hZ hown (lk6 hw) (rm_keyOf_12 hw  h0 n0 Z0 ) e10 (D d33_92) hml.symm rfl rfl (Nat.le_refl _) (by decide) (fun v11 T11 L11 X11 q11 => ?_)
  obtain ⟨rfl, M11, e11⟩ := q11
  have N11 := Fr.app N8 M11
  refine g_astore X11 hx #[vr a1, vr a2, vr a3, vr a4, vi 1, vr a7, vr a8, vn, vn, vn, vn, vr a8, vi 1, vu, vu] (D d33_95) rfl rfl ?_
  refine g_aload X11 hx (D d33_97) rfl rfl ?_
  refine g_S X11 hx hZ hown (lk6 hw) (rm_keyOf_12 hw  h0 n0 Z0 ) e11 (D d33_99) hml.symm rfl rfl (Nat.le_refl _) (by decide) (fun v12 T12 L12 X12 q12 => ?_)
  obtain ⟨rfl, M12, e12⟩ := q12
  have N12 := Fr.app N11 M12
  refine g_astore X12 hx #[vr a1, vr a2, vr a3, vr a4, vi 1, vr a7, vr a8, vn, vn, vn, vn, vn, vi 1, vu, vu] (D d33_102) rfl rfl ?_
  refine g_aloadN X12 hx (D d33_104) rfl rfl ?_
  refine g_aloadN X12 hx (D d33_105) rfl rfl ?_
  refine g_aload X12 hx (D d33_106) rfl rfl ?_
  refine g_V X12 hx hZ hown (lk10 hw) (rm_compare_62 hw a1 a2 a8 a4 i1 i2 i4 h0 n0 Z0 O_a1 O_a2 O_a8 hk2 hk3) e12 O_a1.1 (D d33_108) hml.symm rfl rfl (Nat.le_refl _) (by decide) (fun v13 T13 L13 X13 q13 => ?_)
  obtain ⟨rfl, M13, e13⟩ := q13
  have N13 := Fr.app N12 M13
  refine g_istore X13 hx #[vr a1, vr a2, vr a3, vr a4, vi 1, vr a7, vr a8, vn, vn, vn, vn, vn, vi 0, vu, vu] (D d33_111) rfl ?_
  refine g_iload X13 hx (D d33_113) rfl ?_
  refine g_ifNo X13 hx (D d33_115) ((if0 _ _).trans (teq ((by decide) : (0 : Int32) = (0 : Int32))).2) ?_
  refine g_aload X13 hx (D d33_118) rfl rfl ?_
  refine g_astore X13 hx #[vr a1, vr a2, vr a3, vr a4, vi 1, vr a7, vr a8, vn, vn, vn, vn, vn, vi 0, vr a7, vu] (D d33_120) rfl rfl ?_
  refine g_aload X13 hx (D d33_122) rfl rfl ?_
  refine g_nonnullNo X13 hx (D d33_124) ?_
  refine g_aloadN X13 hx (D d33_127) rfl rfl ?_
  refine g_iload X13 hx (D d33_128) rfl ?_
  refine g_iconst X13 hx (-1 : Int32) (D d33_130) (by decide) ?_
  refine g_S X13 hx hZ hown (lk20 hw) (rm_countPlace_108 hw a4 a5 a6 a7 h0 n0 Z0 O_a4) e13 (D d33_131) hml.symm rfl rfl (Nat.le_refl _) (by decide) (fun v14 T14 L14 X14 q14 => ?_)
  obtain ⟨rfl, M14, e14⟩ := q14
  have N14 := Fr.app N13 M14
  refine g_aload X14 hx (D d33_134) rfl rfl ?_
  exact own_retA X14 hx hret hlk rfl rfl (D d33_136) (by decide) (by decide) ⟨rfl, N14, e14⟩
theorem rm_put_106 (hw : HW a0 Z) (a1 a2 : Addr) (a3 a4 : Addr) (i1 i2 : Int32) (a5 a6 a7 : Addr) (i3 : Int32) (a8 a9 : Addr) (i4 : Int32) (h0 : Heap) (n0 : Nat) (Z0 : n0 ≤ h0.size) (O_a1 : R_MP Z h0 a1 .null (.ref a4) (.int 2) (.int i1)) (O_a2 : R_IN Z h0 a2 (.int i2)) (O_a4 : R_ND Z h0 a4 (.ref a5) (.ref a6) .null (.ref a7) .null (.int 0)) (O_a5 : R_IN Z h0 a5 (.int i3)) (O_a7 : R_ND Z h0 a7 (.ref a8) (.ref a9) .null .null (.ref a4) (.int (-2147483648))) (O_a8 : R_IN Z h0 a8 (.int i4)) (g_a7 : n0 ≤ a7) (hk0 : ¬ (i2 < i3)) (hk1 : ¬ (i2 = i3)) (hk2 : ¬ (i2 < i4)) (hk3 : i2 = i4) :
    Ctr l Y20 B19 4 (some F3_) [] (rmk 5 0 0 79) Z #[(.ref a1), (.ref a2), (.ref a3)] h0 (fun v h L => v = some (.ref a9) ∧ Fr n0 L ∧ Keep h0 h [a7] ∧ R_ND Z h a7 (.ref a8) (.ref a3) .null .null (.ref a4) (.int (-2147483648))) := by
  refine own_enter pn_2 (fun p e s m below meth c s₁ hx hby hml hown hnm hret hlk hZ X0 e0 => ?_)
  have N0 := Fr.nil n0
  have K0 := Keep.refl h0 [a7]
  rw [ef_7_RRR m _ _ _]
  refine g_aloadN X0 hx (hb hby d7_0) rfl rfl ?_
  refine g_aloadN X0 hx (hb hby d7_1) rfl rfl ?_
  refine g_aloadN X0 hx (hb hby d7_2) rfl rfl ?_
  refine g_PH X0 hx hZ hown (lk18 hw) (rm_addIfAbsent_107 hw a1 a2 a3 a4 i1 i2 a5 a6 a7 i3 a8 a9 i4 h0 n0 Z0 O_a1 O_a2 O_a4 O_a5 O_a7 O_a8 hk0 hk1 hk2 hk3) e0 O_a1.1 (hb hby d7_3) hml.symm rfl rfl (Nat.le_refl _) (by decide) (fun v1 T1 L1 X1 q1 => ?_)
  obtain ⟨rfl, M1, e1⟩ := q1
  have N1 := Fr.app N0 M1
  refine g_astoreN X1 hx #[vr a1, vr a2, vr a3, vr a7] (hb hby d7_6) rfl rfl ?_
  refine g_aloadN X1 hx (hb hby d7_7) rfl rfl ?_
  refine g_nonnullYes X1 hx 15 (hb hby d7_8) (by decide) (by decide) ?_
  refine g_aloadN X1 hx (hb hby d7_15) rfl rfl ?_
  refine g_aloadN X1 hx (hb hby d7_16) rfl rfl ?_
  refine g_aloadN X1 hx (hb hby d7_17) rfl rfl ?_
  refine g_V X1 hx hZ hown (lk22 hw) (rm_replaceValue_66 hw a1 a7 a3 a8 a9 a4 h0 n0 Z0 O_a7 g_a7) e1 O_a1.1 (hb hby d7_18) hml.symm rfl rfl (Nat.le_refl _) (by decide) (fun v2 T2 L2 X2 q2 => ?_)
  obtain ⟨rfl, M2, Kc2, Rk2_0⟩ := q2
  have N2 := Fr.app N1 M2
  have K2 := Keep.trans K0 Kc2 (own_memc (mw 0 rfl) own_memn)
  exact own_retA X2 hx hret hlk rfl rfl (hb hby d7_21) (by decide) (by decide) (by rw [(rfl : T2.heap = T2.heap)]; exact ⟨rfl, N2, K2, Rk2_0⟩)
theorem rm_replaceInParent_114 (hw : HW a0 Z) (a1 a2 a3 : Addr) (i1 : Int32) (a4 a5 : Addr) (a6 a7 a8 : Addr) (i2 i3 i4 : Int32) (h0 : Heap) (n0 : Nat) (Z0 : n0 ≤ h0.size) (O_a1 : R_MP Z h0 a1 .null (.ref a2) (.int 3) (.int i1)) (O_a2 : R_ND Z h0 a2 (.ref a4) (.ref a5) .null .null .null (.int (-2147483648))) (O_a3 : R_ND Z h0 a3 (.ref a6) (.ref a7) .null (.ref a8) (.ref a2) (.int 0)) (ne_a1_a3 : a1 ≠ a3) (g_a1 : n0 ≤ a1) (g_a3 : n0 ≤ a3) (hk0 : ¬ (i4 < i2)) (hk1 : ¬ (i4 = i2)) (hk2 : ¬ (i4 < i3)) (hk3 : ¬ (i4 = i3)) :
    Ctr l Y24 B23 4 none [] (rmk 0 0 0 0) Z #[(.ref a1), (.ref a2), (.ref a3)] h0 (fun v h L => v = none ∧ Fr n0 L ∧ Keep h0 h [a1, a3] ∧ R_MP Z h a1 .null (.ref a3) (.int 3) (.int i1) ∧ R_ND Z h a3 (.ref a6) (.ref a7) .null (.ref a8) .null (.int 0)) := by
  refine own_enter pn_2 (fun p e s m below meth c s₁ hx hby hml hown hnm hret hlk hZ X0 e0 => ?_)
  have N0 := Fr.nil n0
  have K0 := Keep.refl h0 [a1, a3]
  rw [ef_20_RRR m _ _ _]
  refine g_aloadN X0 hx (hb hby d20_0) rfl rfl ?_
  refine g_getF X0 hx hZ hown (Wd117 hw) e0 O_a2.2.2.2.2.2.1 (hb hby d20_1) (fun T1 X1 e1 => ?_)
  refine g_astoreN X1 hx #[vr a1, vr a2, vr a3, vn] (hb hby d20_4) rfl rfl ?_
  refine g_aloadN X1 hx (hb hby d20_5) rfl rfl ?_
  refine g_nonnullNo X1 hx (hb hby d20_6) ?_
  refine g_aloadN X1 hx (hb hby d20_9) rfl rfl ?_
  refine g_aloadN X1 hx (hb hby d20_10) rfl rfl ?_
  refine g_putF X1 hx hZ hown (Wd25 hw) e1 O_a1.2.2.1 O_a1.1 (Or.inl (Wd26 hw)) (Wd2 hw) fd_2 rfl rfl (hb hby d20_11) (fun T2 h2 X2 e2 W2 => ?_)
  have N2 := Fr.snoc X2 N0 g_a1
  have O_a1_2 := R_MP_set_root hw W2 O_a1
  have O_a3_2 := R_ND_other W2 O_a3 ne_a1_a3.symm
  have K2 := Keep.wr K0 W2 (mw 0 rfl)
  refine g_goto X2 hx 38 (hb hby d20_14) (by decide) (by decide) ?_
  refine g_aloadN X2 hx (hb hby d20_38) rfl rfl ?_
  refine g_nullNo X2 hx (hb hby d20_39) ?_
  refine g_aloadN X2 hx (hb hby d20_42) rfl rfl ?_
  refine g_aloadN X2 hx (hb hby d20_43) rfl rfl ?_
  refine g_putF X2 hx hZ hown (Wd117 hw) e2 O_a3_2.2.2.2.2.2.1 O_a3_2.1 (Or.inl (Wd90 hw)) (Wd76 hw) fd_2 rfl rfl (hb hby d20_44) (fun T3 h3 X3 e3 W3 => ?_)
  have N3 := Fr.snoc X3 N2 g_a3
  have O_a1_3 := R_MP_other W3 O_a1_2 ne_a1_a3
  have O_a3_3 := R_ND_set_parent hw W3 O_a3_2
  have K3 := Keep.wr K2 W3 (mw 1 rfl)
  exact own_retV X3 hx hret hlk (hb hby d20_47) (by decide) (by decide) (by rw [e3]; exact ⟨rfl, N3, K3, O_a1_3, O_a3_3⟩)
theorem rm_rotateLeft_113 (hw : HW a0 Z) (a1 a2 : Addr) (i1 : Int32) (a3 a4 a5 : Addr) (i2 : Int32) (a6 a7 a8 : Addr) (i3 i4 : Int32) (h0 : Heap) (n0 : Nat) (Z0 : n0 ≤ h0.size) (O_a1 : R_MP Z h0 a1 .null (.ref a2) (.int 3) (.int i1)) (O_a2 : R_ND Z h0 a2 (.ref a3) (.ref a4) .null (.ref a5) .null (.int (-2147483648))) (O_a5 : R_ND Z h0 a5 (.ref a6) (.ref a7) .null (.ref a8) (.ref a2) (.int 0)) (ne_a1_a2 : a1 ≠ a2) (ne_a1_a5 : a1 ≠ a5) (ne_a2_a5 : a2 ≠ a5) (g_a1 : n0 ≤ a1) (g_a2 : n0 ≤ a2) (g_a5 : n0 ≤ a5) (hk0 : ¬ (i4 < i2)) (hk1 : ¬ (i4 = i2)) (hk2 : ¬ (i4 < i3)) (hk3 : ¬ (i4 = i3)) :
    Ctr l Y29 B28 3 none [] (rmk 1 0 0 15) Z #[(.ref a1), (.ref a2)] h0 (fun v h L => v = none ∧ Fr n0 L ∧ Keep h0 h [a1, a2, a5] ∧ R_MP Z h a1 .null (.ref a5) (.int 3) (.int i1) ∧ R_ND Z h a2 (.ref a3) (.ref a4) .null .null (.ref a5) (.int (-2147483648)) ∧ R_ND Z h a5 (.ref a6) (.ref a7) (.ref a2) (.ref a8) .null (.int 1)) := by
  refine own_enter pn_2 (fun p e s m below meth c s₁ hx hby hml hown hnm hret hlk hZ X0 e0 => ?_)
  have D {q : Nat} {r} (z : decode B28 q = r) : decode c.code q = r := hb hby z
  have N0 := Fr.nil n0
  have K0 := Keep.refl h0 [a1, a2, a5]
  rw [ef_19_RR m _ _]
  refine g_aloadN X0 hx (D d19_0) rfl rfl ?_
  refine g_getF X0 hx hZ hown (Wd103 hw) e0 O_a2.2.2.2.2.1 (D d19_1) (fun T1 X1 e1 => ?_)
  refine g_astoreN X1 hx #[vr a1, vr a2, vr a5] (D d19_4) rfl rfl ?_
  refine g_aloadN X1 hx (D d19_5) rfl rfl ?_
  refine g_aloadN X1 hx (D d19_6) rfl rfl ?_
  refine g_getF X1 hx hZ hown (Wd101 hw) e1 O_a5.2.2.2.1 (D d19_7) (fun T2 X2 e2 => ?_)
  refine g_putF X2 hx hZ hown (Wd103 hw) e2 O_a2.2.2.2.2.1 O_a2.1 (Or.inl (Wd104 hw)) (Wd76 hw) fd_2 rfl rfl (D d19_10) (fun T3 h3 X3 e3 W3 => ?_)
  have N3 := Fr.snoc X3 N0 g_a2
  have O_a1_3 := R_MP_other W3 O_a1 ne_a1_a2
  have O_a2_3 := R_ND_set_right hw W3 O_a2
  have O_a5_3 := R_ND_other W3 O_a5 ne_a2_a5.symm
  have Z3 : n0 ≤ h3.size := Nat.le_trans Z0 (Nat.le_of_eq W3.size.symm)
  have K3 := Keep.wr K0 W3 (mw 1 rfl)
  refine g_aloadN X3 hx (D d19_13) rfl rfl ?_
  refine g_getF X3 hx hZ hown (Wd101 hw) e3 O_a5_3.2.2.2.1 (D d19_14) (fun T4 X4 e4 => ?_)
  refine g_nullYes X4 hx 28 (D d19_17) (by decide) (by decide) ?_
  refine g_aloadN X4 hx (D d19_28) rfl rfl ?_
  refine g_aloadN X4 hx (D d19_29) rfl rfl ?_
  refine g_aloadN X4 hx (D d19_30) rfl rfl ?_
  refine g_P X4 hx hZ hown (lk23 hw) (rm_replaceInParent_114 hw a1 a2 a5 i1 a3 a4 a6 a7 a8 i2 i3 i4 h3 n0 Z3 O_a1_3 O_a2_3 O_a5_3 ne_a1_a5 g_a1 g_a5 hk0 hk1 hk2 hk3) e4 O_a1_3.1 (D d19_31) hml.symm rfl rfl (Nat.le_refl _) (by decide) (fun v5 T5 L5 X5 q5 => ?_)
  obtain ⟨rfl, M5, Kc5, Rk5_0, Rk5_1⟩ := q5
  have N5 := Fr.app N3 M5
  have O_a2_5 := R_ND_keep O_a2_3 Kc5 (own_nin ne_a1_a2.symm (own_nin ne_a2_a5 nl))
  have K5 := Keep.trans K3 Kc5 (own_memc (mw 0 rfl) (own_memc (mw 2 rfl) own_memn))
  have Z5 : n0 ≤ T5.heap.size := Nat.le_trans Z3 Kc5.1
  refine g_aloadN X5 hx (D d19_34) rfl rfl ?_
  refine g_aloadN X5 hx (D d19_35) rfl rfl ?_
  refine g_putF X5 hx hZ hown (Wd101 hw) (rfl : T5.heap = T5.heap) Rk5_1.2.2.2.1 Rk5_1.1 (Or.inl (Wd102 hw)) (Wd76 hw) fd_2 rfl rfl (D d19_36) (fun T6 h6 X6 e6 W6 => ?_)
  have N6 := Fr.snoc X6 N5 g_a5
  have O_a2_6 := R_ND_other W6 O_a2_5 ne_a2_a5
  have O_a1_6 := R_MP_other W6 Rk5_0 ne_a1_a5
  have O_a5_6 := R_ND_set_left hw W6 Rk5_1
  have Z6 : n0 ≤ h6.size := Nat.le_trans Z5 (Nat.le_of_eq W6.size.symm)
  have K6 := Keep.wr K5 W6 (mw 2 rfl)
  refine g_aloadN X6 hx (D d19_39) rfl rfl ?_
  refine g_aloadN X6 hx (D d19_40) rfl rfl ?_
  refine g_putF X6 hx hZ hown (Wd117 hw) e6 O_a2_6.2.2.2.2.2.1 O_a2_6.1 (Or.inl (Wd90 hw)) (Wd76 hw) fd_2 rfl rfl (D d19_41) (fun T7 h7 X7 e7 W7 => ?_)
  have N7 := Fr.snoc X7 N6 g_a2
  have O_a2_7 := R_ND_set_parent hw W7 O_a2_6
  have O_a1_7 := R_MP_other W7 O_a1_6 ne_a1_a2
  have O_a5_7 := R_ND_other W7 O_a5_6 ne_a2_a5.symm
  have Z7 : n0 ≤ h7.size := Nat.le_trans Z6 (Nat.le_of_eq W7.size.symm)
  have K7 := Keep.wr K6 W7 (mw 1 rfl)
  refine g_aloadN X7 hx (D d19_44) rfl rfl ?_
  refine g_aloadN X7 hx (D d19_45) rfl rfl ?_
  refine g_S X7 hx hZ hown (lk24 hw) (rm_leftCount_75 hw a2 a3 a4 a5 h7 n0 Z7 O_a2_7) e7 (D d19_46) hml.symm rfl (rest := [(.ref a5)]) rfl (W := 1) (Nat.le_of_eq rfl) (by decide) (fun v8 T8 L8 X8 q8 => ?_)
  obtain ⟨rfl, M8, e8⟩ := q8
  have N8 := Fr.app N7 M8
  refine g_iconst X8 hx (1 : Int32) (D d19_49) (by decide) ?_
  refine g_iadd X8 hx (D d19_50) ?_
  show Go p e below (T8.setTop (mkF m 51 #[vr a1, vr a2, vr a5] [(.int ((0 : Int32) + (1 : Int32))), (.ref a5)])) _
  rw [show ((0 : Int32) + (1 : Int32)) = (1 : Int32) from by decide]
  refine g_S X8 hx hZ hown (lk11 hw) (rm_addToLeftCount_105 hw a5 a6 a7 a2 a8 h7 n0 Z7 O_a5_7 g_a5) e8 (D d19_51) hml.symm rfl rfl (Nat.le_refl _) (by decide) (fun v9 T9 L9 X9 q9 => ?_)
  obtain ⟨rfl, M9, Kc9, Rk9_0⟩ := q9
  have N9 := Fr.app N8 M9
  have O_a2_9 := R_ND_keep O_a2_7 Kc9 (own_nin ne_a2_a5 nl)
  have O_a1_9 := R_MP_keep O_a1_7 Kc9 (own_nin ne_a1_a5 nl)
  have K9 := Keep.trans K7 Kc9 (own_memc (mw 2 rfl) own_memn)
  have Z9 : n0 ≤ T9.heap.size := Nat.le_trans Z7 Kc9.1
  refine g_aloadN X9 hx (D d19_54) rfl rfl ?_
  refine g_aloadN X9 hx (D d19_55) rfl rfl ?_
  refine g_V X9 hx hZ hown (lk25 hw) (rm_refresh_57 hw a1 a2 T9.heap n0 Z9 ) (rfl : T9.heap = T9.heap) O_a1_9.1 (D d19_56) hml.symm rfl rfl (Nat.le_refl _) (by decide) (fun v10 T10 L10 X10 q10 => ?_)
  obtain ⟨rfl, M10, e10⟩ := q10
  have N10 := Fr.app N9 M10
  refine g_aloadN X10 hx (D d19_59) rfl rfl ?_
  refine g_aloadN X10 hx (D d19_60) rfl rfl ?_
  refine g_V X10 hx hZ hown (lk25 hw) (rm_refresh_57 hw a1 a5 T9.heap n0 Z9 ) e10 O_a1_9.1 (D d19_61) hml.symm rfl rfl (Nat.le_refl _) (by decide) (fun v11 T11 L11 X11 q11 => ?_)
  obtain ⟨rfl, M11, e11⟩ := q11
  have N11 := Fr.app N10 M11
  exact own_retV X11 hx hret hlk (D d19_64) (by decide) (by decide) (by rw [e11]; exact ⟨rfl, N11, K9, O_a1_9, O_a2_9, Rk9_0⟩)
theorem rm_balanceAfterInsert_112 (hw : HW a0 Z) (a1 a2 a3 : Addr) (i1 : Int32) (a4 a5 : Addr) (a6 a7 a8 : Addr) (i2 : Int32) (a9 a10 : Addr) (i3 i4 : Int32) (h0 : Heap) (n0 : Nat) (Z0 : n0 ≤ h0.size) (O_a1 : R_MP Z h0 a1 .null (.ref a3) (.int 3) (.int i1)) (O_a2 : R_ND Z h0 a2 (.ref a4) (.ref a5) .null .null (.ref a6) (.int (-2147483648))) (O_a3 : R_ND Z h0 a3 (.ref a7) (.ref a8) .null (.ref a6) .null (.int 0)) (O_a6 : R_ND Z h0 a6 (.ref a9) (.ref a10) .null (.ref a2) (.ref a3) (.int (-2147483648))) (ne_a1_a2 : a1 ≠ a2) (ne_a1_a3 : a1 ≠ a3) (ne_a1_a6 : a1 ≠ a6) (ne_a2_a3 : a2 ≠ a3) (ne_a2_a6 : a2 ≠ a6) (ne_a3_a6 : a3 ≠ a6) (g_a1 : n0 ≤ a1) (g_a3 : n0 ≤ a3) (g_a6 : n0 ≤ a6) (hk0 : ¬ (i2 < i3)) (hk1 : ¬ (i2 = i3)) (hk2 : ¬ (i2 < i4)) (hk3 : ¬ (i2 = i4)) :
    Ctr l Y18 B17 6 none [] (rmk 2 0 0 29) Z #[(.ref a1), (.ref a2)] h0 (fun v h L => v = none ∧ Fr n0 L ∧ Keep h0 h [a1, a3, a6] ∧ R_MP Z h a1 .null (.ref a6) (.int 3) (.int i1) ∧ R_ND Z h a3 (.ref a7) (.ref a8) .null .null (.ref a6) (.int (-2147483648)) ∧ R_ND Z h a6 (.ref a9) (.ref a10) (.ref a3) (.ref a2) .null (.int 1)) := by
  refine own_enter pn_2 (fun p e s m below meth c s₁ hx hby hml hown hnm hret hlk hZ X0 e0 => ?_)
  have D {q : Nat} {r} (z : decode B17 q = r) : decode c.code q = r := hb hby z
  have N0 := Fr.nil n0
  have K0 := Keep.refl h0 [a1, a3, a6]
  rw [ef_17_RR m _ _]
  refine g_aloadN X0 hx (D d17_0) rfl rfl ?_
  refine g_astoreN X0 hx #[vr a1, vr a2, vr a2, vu, vu, vu] (D d17_1) rfl rfl ?_
  refine g_aloadN X0 hx (D d17_2) rfl rfl ?_
  refine g_getF X0 hx hZ hown (Wd117 hw) e0 O_a2.2.2.2.2.2.1 (D d17_3) (fun T1 X1 e1 => ?_)
  refine g_S X1 hx hZ hown (lk15 hw) (rm_isRed_72 hw a6 a9 a10 a2 a3 h0 n0 Z0 O_a6) e1 (D d17_6) hml.symm rfl rfl (Nat.le_refl _) (by decide) (fun v2 T2 L2 X2 q2 => ?_)
  obtain ⟨rfl, M2, e2⟩ := q2
  have N2 := Fr.app N0 M2
  refine g_ifNo X2 hx (D d17_9) ((if0 _ _).trans (feq ((by decide) : ¬ ((1 : Int32) = (0 : Int32)))).1) ?_
  refine g_aloadN X2 hx (D d17_12) rfl rfl ?_
  refine g_getF X2 hx hZ hown (Wd117 hw) e2 O_a2.2.2.2.2.2.1 (D d17_13) (fun T3 X3 e3 => ?_)
  refine g_astoreN X3 hx #[vr a1, vr a2, vr a2, vr a6, vu, vu] (D d17_16) rfl rfl ?_
  refine g_aloadN X3 hx (D d17_17) rfl rfl ?_
  refine g_getF X3 hx hZ hown (Wd117 hw) e3 O_a6.2.2.2.2.2.1 (D d17_18) (fun T4 X4 e4 => ?_)
  refine g_astore X4 hx #[vr a1, vr a2, vr a2, vr a6, vr a3, vu] (D d17_21) rfl rfl ?_
  refine g_aloadN X4 hx (D d17_23) rfl rfl ?_
  refine g_aload X4 hx (D d17_24) rfl rfl ?_
  refine g_getF X4 hx hZ hown (Wd101 hw) e4 O_a3.2.2.2.1 (D d17_26) (fun T5 X5 e5 => ?_)
  refine g_acmp X5 hx 110 false rfl rfl (D d17_29) (decide_eq_false nofun) (by decide) (by decide) ?_
  refine g_aload X5 hx (D d17_110) rfl rfl ?_
  refine g_getF X5 hx hZ hown (Wd101 hw) e5 O_a3.2.2.2.1 (D d17_112) (fun T6 X6 e6 => ?_)
  refine g_astore X6 hx #[vr a1, vr a2, vr a2, vr a6, vr a3, vn] (D d17_115) rfl rfl ?_
  refine g_aload X6 hx (D d17_117) rfl rfl ?_
  refine g_S X6 hx hZ hown (lk15 hw) (rm_isRed_50 hw  h0 n0 Z0 ) e6 (D d17_119) hml.symm rfl rfl (Nat.le_refl _) (by decide) (fun v7 T7 L7 X7 q7 => ?_)
  obtain ⟨rfl, M7, e7⟩ := q7
  have N7 := Fr.app N2 M7
  refine g_ifYes X7 hx 148 (D d17_122) ((if0 _ _).trans (teq ((by decide) : (0 : Int32) = (0 : Int32))).1) (by decide) (by decide) ?_
  refine g_aloadN X7 hx (D d17_148) rfl rfl ?_
  refine g_aloadN X7 hx (D d17_149) rfl rfl ?_
  refine g_getF X7 hx hZ hown (Wd101 hw) e7 O_a6.2.2.2.1 (D d17_150) (fun T8 X8 e8 => ?_)
  refine g_acmp X8 hx 168 false rfl rfl (D d17_153) (decide_eq_false nofun) (by decide) (by decide) ?_
  refine g_aloadN X8 hx (D d17_168) rfl rfl ?_
  refine g_iconst X8 hx (0 : Int32) (D d17_169) (by decide) ?_
  refine g_S X8 hx hZ hown (lk16 hw) (rm_setRed_101 hw a6 a9 a10 a2 a3 h0 n0 Z0 O_a6 g_a6) e8 (D d17_170) hml.symm rfl rfl (Nat.le_refl _) (by decide) (fun v9 T9 L9 X9 q9 => ?_)
  obtain ⟨rfl, M9, Kc9, Rk9_0⟩ := q9
  have N9 := Fr.app N7 M9
  have O_a1_9 := R_MP_keep O_a1 Kc9 (own_nin ne_a1_a6 nl)
  have O_a2_9 := R_ND_keep O_a2 Kc9 (own_nin ne_a2_a6 nl)
  have O_a3_9 := R_ND_keep O_a3 Kc9 (own_nin ne_a3_a6 nl)
  have K9 := Keep.trans K0 Kc9 (own_memc (mw 2 rfl) own_memn)
  have Z9 : n0 ≤ T9.heap.size := Nat.le_trans Z0 Kc9.1
  refine g_aload X9 hx (D d17_173) rfl rfl ?_
  refine g_iconst X9 hx (1 : Int32) (D d17_175) (by decide) ?_
  refine g_S X9 hx hZ hown (lk16 hw) (rm_setRed_102 hw a3 a7 a8 a6 T9.heap n0 Z9 O_a3_9 g_a3) (rfl : T9.heap = T9.heap) (D d17_176) hml.symm rfl rfl (Nat.le_refl _) (by decide) (fun v10 T10 L10 X10 q10 => ?_)
  obtain ⟨rfl, M10, Kc10, Rk10_0⟩ := q10
  have N10 := Fr.app N9 M10
  have O_a1_10 := R_MP_keep O_a1_9 Kc10 (own_nin ne_a1_a3 nl)
  have O_a2_10 := R_ND_keep O_a2_9 Kc10 (own_nin ne_a2_a3 nl)
  have O_a6_10 := R_ND_keep Rk9_0 Kc10 (own_nin ne_a3_a6.symm nl)
  have K10 := Keep.trans K9 Kc10 (own_memc (mw 1 rfl) own_memn)
  have Z10 : n0 ≤ T10.heap.size := Nat.le_trans Z9 Kc10.1
  refine g_aloadN X10 hx (D d17_179) rfl rfl ?_
  refine g_aload X10 hx (D d17_180) rfl rfl ?_
  refine g_P X10 hx hZ hown (lk28 hw) (rm_rotateLeft_113 hw a1 a3 i1 a7 a8 a6 i3 a9 a10 a2 i4 i2 T10.heap n0 Z10 O_a1_10 Rk10_0 O_a6_10 ne_a1_a3 ne_a1_a6 ne_a3_a6 g_a1 g_a3 g_a6 hk0 hk1 hk2 hk3) (rfl : T10.heap = T10.heap) O_a1_10.1 (D d17_182) hml.symm rfl rfl (Nat.le_refl _) (by decide) (fun v11 T11 L11 X11 q11 => ?_)
  obtain ⟨rfl, M11, Kc11, Rk11_0, Rk11_1, Rk11_2⟩ := q11
  have N11 := Fr.app N10 M11
  have O_a2_11 := R_ND_keep O_a2_10 Kc11 (own_nin ne_a1_a2.symm (own_nin ne_a2_a3 (own_nin ne_a2_a6 nl)))
  have K11 := Keep.trans K10 Kc11 (own_memc (mw 0 rfl) (own_memc (mw 1 rfl) (own_memc (mw 2 rfl) own_memn)))
  have Z11 : n0 ≤ T11.heap.size := Nat.le_trans Z10 Kc11.1
  refine g_goto X11 hx 2 (D d17_185) (by decide) (by decide) ?_
  refine g_aloadN X11 hx (D d17_2) rfl rfl ?_
  refine g_getF X11 hx hZ hown (Wd117 hw) (rfl : T11.heap = T11.heap) O_a2_11.2.2.2.2.2.1 (D d17_3) (fun T12 X12 e12 => ?_)
  refine g_S X12 hx hZ hown (lk15 hw) (rm_isRed_58 hw a6 a9 a10 a3 a2 T11.heap n0 Z11 Rk11_2) e12 (D d17_6) hml.symm rfl rfl (Nat.le_refl _) (by decide) (fun v13 T13 L13 X13 q13 => ?_)
  obtain ⟨rfl, M13, e13⟩ := q13
  have N13 := Fr.app N11 M13
  refine g_ifYes X13 hx 188 (D d17_9) ((if0 _ _).trans (teq ((by decide) : (0 : Int32) = (0 : Int32))).1) (by decide) (by decide) ?_
  refine g_aloadN X13 hx (D d17_188) rfl rfl ?_
  refine g_getF X13 hx hZ hown (Wd25 hw) e13 Rk11_0.2.2.1 (D d17_189) (fun T14 X14 e14 => ?_)
  refine g_iconst X14 hx (0 : Int32) (D d17_192) (by decide) ?_
  refine g_S X14 hx hZ hown (lk16 hw) (rm_setRed_59 hw a6 a9 a10 a3 a2 T11.heap n0 Z11 Rk11_2 g_a6) e14 (D d17_193) hml.symm rfl rfl (Nat.le_refl _) (by decide) (fun v15 T15 L15 X15 q15 => ?_)
  obtain ⟨rfl, M15, Kc15, Rk15_0⟩ := q15
  have N15 := Fr.app N13 M15
  have O_a1_15 := R_MP_keep Rk11_0 Kc15 (own_nin ne_a1_a6 nl)
  have O_a3_15 := R_ND_keep Rk11_1 Kc15 (own_nin ne_a3_a6 nl)
  have K15 := Keep.trans K11 Kc15 (own_memc (mw 2 rfl) own_memn)
  exact own_retV X15 hx hret hlk (D d17_196) (by decide) (by decide) (by rw [(rfl : T15.heap = T15.heap)]; exact ⟨rfl, N15, K15, O_a1_15, O_a3_15, Rk15_0⟩)
theorem rm_addIfAbsent_111 (hw : HW a0 Z) (a1 a2 : Addr) (a3 a4 : Addr) (i1 i2 : Int32) (a5 a6 a7 : Addr) (i3 : Int32) (a8 a9 : Addr) (i4 : Int32) (h0 : Heap) (n0 : Nat) (Z0 : n0 ≤ h0.size) (O_a1 : R_MP Z h0 a1 .null (.ref a4) (.int 2) (.int i1)) (O_a2 : R_IN Z h0 a2 (.int i2)) (O_a4 : R_ND Z h0 a4 (.ref a5) (.ref a6) .null (.ref a7) .null (.int 0)) (O_a5 : R_IN Z h0 a5 (.int i3)) (O_a7 : R_ND Z h0 a7 (.ref a8) (.ref a9) .null .null (.ref a4) (.int (-2147483648))) (O_a8 : R_IN Z h0 a8 (.int i4)) (ne_a1_a4 : a1 ≠ a4) (ne_a1_a7 : a1 ≠ a7) (ne_a4_a7 : a4 ≠ a7) (g_a1 : n0 ≤ a1) (g_a4 : n0 ≤ a4) (g_a7 : n0 ≤ a7) (hk0 : ¬ (i2 < i3)) (hk1 : ¬ (i2 = i3)) (hk2 : ¬ (i2 < i4)) (hk3 : ¬ (i2 = i4)) :
    CtrH l Y19 B18 15 (some F1_) [(71, 122, 210, 0), (137, 195, 210, 0), (210, 212, 210, 0)] (rmk 4 1 6 53) Z #[(.ref a1), (.ref a2), (.ref a3)] h0 (fun v h L => ∃ f1, v = some .null ∧ Fr n0 L ∧ Keep h0 h [a1, a4, a7] ∧ h0.size ≤ f1 ∧ R_MP Z h a1 .null (.ref a7) (.int 3) (.int (i1 + (1 : Int32))) ∧ R_ND Z h a4 (.ref a5) (.ref a6) .null .null (.ref a7) (.int (-2147483648)) ∧ R_ND Z h a7 (.ref a8) (.ref a9) (.ref a4) (.ref f1) .null (.int 1) ∧ R_ND Z h f1 (.ref a2) (.ref a3) .null .null (.ref a7) (.int (-2147483648))) := by
  refine own_enterH pn_2 (fun p e s m below meth c s₁ hx hby hml hown hnm hret hlk hZ X0 e0 => ?_)
  have D {q : Nat} {r} (z : decode B18 q = r) : decode c.code q = r := hb hby z
  have N0 := Fr.nil n0
  have K0 := Keep.refl h0 [a1, a4, a7]
  rw [ef_33_RRR m _ _ _]
  refine g_aloadN X0 hx (D d33_0) rfl rfl ?_
  refine g_getF X0 hx hZ hown (Wd25 hw) e0 O_a1.2.2.1 (D d33_1) (fun T1 X1 e1 => ?_)
  refine g_nonnullYes X1 hx 50 (D d33_4) (by decide) (by decide) ?_
  refine g_null X1 hx (D d33_50) ?_
  refine g_astoreN X1 hx #[vr a1, vr a2, vr a3, vn, vu, vu, vu, vu, vu, vu, vu, vu, vu, vu, vu] (D d33_51) rfl rfl ?_
  refine g_iconst X1 hx (0 : Int32) (D d33_52) (by decide) ?_
  refine g_istore X1 hx #[vr a1, vr a2, vr a3, vn, vi 0, vu, vu, vu, vu, vu, vu, vu, vu, vu, vu] (D d33_53) rfl ?_
  refine g_aloadN X1 hx (D d33_55) rfl rfl ?_
  refine g_getF X1 hx hZ hown (Wd25 hw) e1 O_a1.2.2.1 (D d33_56) (fun T2 X2 e2 => ?_)
  refine g_astore X2 hx #[vr a1, vr a2, vr a3, vn, vi 0, vr a4, vu, vu, vu, vu, vu, vu, vu, vu, vu] (D d33_59) rfl rfl ?_
  refine g_aload X2 hx (D d33_61) rfl rfl ?_
  refine g_getF X2 hx hZ hown (Wd100 hw) e2 O_a4.2.1 (D d33_63) (fun T3 X3 e3 => ?_)
  refine g_astore X3 hx #[vr a1, vr a2, vr a3, vn, vi 0, vr a4, vr a5, vu, vu, vu, vu, vu, vu, vu, vu] (D d33_66) rfl rfl ?_
  refine g_null X3 hx (D d33_68) ?_
  refine g_astore X3 hx #[vr a1, vr a2, vr a3, vn, vi 0, vr a4, vr a5, vn, vu, vu, vu, vu, vu, vu, vu] (D d33_69) rfl rfl ?_
  refine g_aload X3 hx (D d33_71) rfl rfl ?_
  refine g_nullNo X3 hx (D d33_73) ?_
  refine g_aload X3 hx (D d33_76) rfl rfl ?_
  refine g_getF X3 hx hZ hown (Wd101 hw) e3 O_a4.2.2.2.1 (D d33_78) (fun T4 X4 e4 => ?_)
  refine g_astore X4 hx #[vr a1, vr a2, vr a3, vn, vi 0, vr a4, vr a5, vn, vn, vu, vu, vu, vu, vu, vu] (D d33_81) rfl rfl ?_
  refine g_aload X4 hx (D d33_83) rfl rfl ?_
  refine g_getF X4 hx hZ hown (Wd103 hw) e4 O_a4.2.2.2.2.1 (D d33_85) (fun T5 X5 e5 => ?_)
  refine g_astore X5 hx #[vr a1, vr a2, vr a3, vn, vi 0, vr a4, vr a5, vn, vn, vr a7, vu, vu, vu, vu, vu] (D d33_88) rfl rfl ?_
  refine g_aload X5 hx (D d33_90) rfl rfl ?_
  refine g_S X5 hx hZ hown (lk6 hw) (rm_keyOf_12 hw  h0 n0 Z0 ) e5 (D d33_92) hml.symm rfl rfl (Nat.le_refl _) (by decide) (fun v6 T6 L6 X6 q6 => ?_)
  obtain ⟨rfl, M6, e6⟩ := q6
  have N6 := Fr.app N0 M6
  refine g_astore X6 hx #[vr a1, vr a2, vr a3, vn, vi 0, vr a4, vr a5, vn, vn, vr a7, vn, vu, vu, vu, vu] (D d33_95) rfl rfl ?_
  refine g_aload X6 hx (D d33_97) rfl rfl ?_
  refine g_S X6 hx hZ hown (lk6 hw) (rm_keyOf_44 hw a7 a8 a9 a4 h0 n0 Z0 O_a7) e6 (D d33_99) hml.symm rfl rfl (Nat.le_refl _) (by decide) (fun v7 T7 L7 X7 q7 => ?_)
  obtain ⟨rfl, M7, e7⟩ := q7
  have N7 := Fr.app N6 M7
  refine g_astore X7 hx #[vr a1, vr a2, vr a3, vn, vi 0, vr a4, vr a5, vn, vn, vr a7, vn, vr a8, vu, vu, vu] (D d33_102) rfl rfl ?_
  refine g_aloadN X7 hx (D d33_104) rfl rfl ?_
  refine g_aloadN X7 hx (D d33_105) rfl rfl ?_
  refine g_aload X7 hx (D d33_106) rfl rfl ?_
  refine g_V X7 hx hZ hown (lk10 hw) (rm_compare_70 hw a1 a2 a5 a4 i1 i2 i3 h0 n0 Z0 O_a1 O_a2 O_a5 hk0 hk1) e7 O_a1.1 (D d33_108) hml.symm rfl rfl (Nat.le_refl _) (by decide) (fun v8 T8 L8 X8 q8 => ?_)
  obtain ⟨rfl, M8, e8⟩ := q8
  have N8 := Fr.app N7 M8
  refine g_istore X8 hx #[vr a1, vr a2, vr a3, vn, vi 0, vr a4, vr a5, vn, vn, vr a7, vn, vr a8, vi 1, vu, vu] (D d33_111) rfl ?_
  refine g_iload X8 hx (D d33_113) rfl ?_
  refine g_ifYes X8 hx 137 (D d33_115) ((if0 _ _).trans (feq ((by decide) : ¬ ((1 : Int32) = (0 : Int32)))).2) (by decide) (by decide) ?_
  refine g_aload X8 hx (D d33_137) rfl rfl ?_
  refine g_astoreN X8 hx #[vr a1, vr a2, vr a3, vr a4, vi 0, vr a4, vr a5, vn, vn, vr a7, vn, vr a8, vi 1, vu, vu] (D d33_139) rfl rfl ?_
  refine g_iload X8 hx (D d33_140) rfl ?_
  refine g_istore X8 hx #[vr a1, vr a2, vr a3, vr a4, vi 1, vr a4, vr a5, vn, vn, vr a7, vn, vr a8, vi 1, vu, vu] (D d33_142) rfl ?_
  refine g_iload X8 hx (D d33_144) rfl ?_
  refine g_ifYes X8 hx 155 (D d33_146) ((if0 _ _).trans (flt ((by decide) : ¬ ((1 : Int32) < (0 : Int32)))).2.1) (by decide) (by decide) ?_
  refine g_iload X8 hx (D d33_155) rfl ?_
  refine g_ifYes X8 hx 165 (D d33_157) ((if0 _ _).trans (flt ((by decide) : ¬ ((1 : Int32) < (0 : Int32)))).2.1) (by decide) (by decide) ?_
  refine g_aload X8 hx (D d33_165) rfl rfl ?_
  refine g_astore X8 hx #[vr a1, vr a2, vr a3, vr a4, vi 1, vr a7, vr a5, vn, vn, vr a7, vn, vr a8, vi 1, vu, vu] (D d33_167) rfl rfl ?_
  refine g_iload X8 hx (D d33_169) rfl ?_
  refine g_ifYes X8 hx 179 (D d33_171) ((if0 _ _).trans (flt ((by decide) : ¬ ((1 : Int32) < (0 : Int32)))).2.1) (by decide) (by decide) ?_
  refine g_aload X8 hx (D d33_179) rfl rfl ?_
  refine g_astore X8 hx #[vr a1, vr a2, vr a3, vr a4, vi 1, vr a7, vr a8, vn, vn, vr a7, vn, vr a8, vi 1, vu, vu] (D d33_181) rfl rfl ?_
  refine g_goto X8 hx 71 (D d33_183) (by decide) (by decide) ?_
  refine g_aload X8 hx (D d33_71) rfl rfl ?_
  refine g_nullNo X8 hx (D d33_73) ?_
  refine g_aload X8 hx (D d33_76) rfl rfl ?_
  refine g_getF X8 hx hZ hown (Wd101 hw) e8 O_a7.2.2.2.1 (D d33_78) (fun T9 X9 e9 => ?_)
  refine g_astore X9 hx #[vr a1, vr a2, vr a3, vr a4, vi 1, vr a7, vr a8, vn, vn, vr a7, vn, vr a8, vi 1, vu, vu] (D d33_81) rfl rfl ?_
  refine g_aload X9 hx (D d33_83) rfl rfl ?_
  refine g_getF X9 hx hZ hown (Wd103 hw) e9 O_a7.2.2.2.2.1 (D d33_85) (fun T10 X10 e10 => ?_)
  refine g_astore X10 hx #[vr a1, vr a2, vr a3, vr a4, vi 1, vr a7, vr a8, vn, vn, vn, vn, vr a8, vi 1, vu, vu] (D d33_88) rfl rfl ?_
  refine g_aload X10 hx (D d33_90) rfl rfl ?_
  refine g_S X10 hx hZ hown (lk6 hw) (rm_keyOf_12 hw  h0 n0 Z0 ) e10 (D d33_92) hml.symm rfl rfl (Nat.le_refl _) (by decide) (fun v11 T11 L11 X11 q11 => ?_)
  obtain ⟨rfl, M11, e11⟩ := q11
  have N11 := Fr.app N8 M11
  refine g_astore X11 hx #[vr a1, vr a2, vr a3, vr a4, vi 1, vr a7, vr a8, vn, vn, vn, vn, vr a8, vi 1, vu, vu] (D d33_95) rfl rfl ?_
  refine g_aload X11 hx (D d33_97) rfl rfl ?_
  refine g_S X11 hx hZ hown (lk6 hw) (rm_keyOf_12 hw  h0 n0 Z0 ) e11 (D d33_99) hml.symm rfl rfl (Nat.le_refl _) (by decide) (fun v12 T12 L12 X12 q12 => ?_)
  obtain ⟨rfl, M12, e12⟩ := q12
  have N12 := Fr.app N11 M12
  refine g_astore X12 hx #[vr a1, vr a2, vr a3, vr a4, vi 1, vr a7, vr a8, vn, vn, vn, vn, vn, vi 1, vu, vu] (D d33_102) rfl rfl ?_
  refine g_aloadN X12 hx (D d33_104) rfl rfl ?_
  refine g_aloadN X12 hx (D d33_105) rfl rfl ?_
  refine g_aload X12 hx (D d33_106) rfl rfl ?_
  refine g_V X12 hx hZ hown (lk10 hw) (rm_compare_70 hw a1 a2 a8 a4 i1 i2 i4 h0 n0 Z0 O_a1 O_a2 O_a8 hk2 hk3) e12 O_a1.1 (D d33_108) hml.symm rfl rfl (Nat.le_refl _) (by decide) (fun v13 T13 L13 X13 q13 => ?_)
  obtain ⟨rfl, M13, e13⟩ := q13
  have N13 := Fr.app N12 M13
  refine g_istore X13 hx #[vr a1, vr a2, vr a3, vr a4, vi 1, vr a7, vr a8, vn, vn, vn, vn, vn, vi 1, vu, vu] (D d33_111) rfl ?_
  refine g_iload X13 hx (D d33_113) rfl ?_
  refine g_ifYes X13 hx 137 (D d33_115) ((if0 _ _).trans (feq ((by decide) : ¬ ((1 : Int32) = (0 : Int32)))).2) (by decide) (by decide) ?_
  refine g_aload X13 hx (D d33_137) rfl rfl ?_
  refine g_astoreN X13 hx #[vr a1, vr a2, vr a3, vr a7, vi 1, vr a7, vr a8, vn, vn, vn, vn, vn, vi 1, vu, vu] (D d33_139) rfl rfl ?_
  refine g_iload X13 hx (D d33_140) rfl ?_
  refine g_istore X13 hx #[vr a1, vr a2, vr a3, vr a7, vi 1, vr a7, vr a8, vn, vn, vn, vn, vn, vi 1, vu, vu] (D d33_142) rfl ?_
  refine g_iload X13 hx (D d33_144) rfl ?_
  refine g_ifYes X13 hx 155 (D d33_146) ((if0 _ _).trans (flt ((by decide) : ¬ ((1 : Int32) < (0 : Int32)))).2.1) (by decide) (by decide) ?_
  refine g_iload X13 hx (D d33_155) rfl ?_
  refine g_ifYes X13 hx 165 (D d33_157) ((if0 _ _).trans (flt ((by decide) : ¬ ((1 : Int32) < (0 : Int32)))).2.1) (by decide) (by decide) ?_
  refine g_aload X13 hx (D d33_165) rfl rfl ?_
  refine g_astore X13 hx #[vr a1, vr a2, vr a3, vr a7, vi 1, vn, vr a8, vn, vn, vn, vn, vn, vi 1, vu, vu] (D d33_167) rfl rfl ?_
  refine g_iload X13 hx (D d33_169) rfl ?_
  refine g_ifYes X13 hx 179 (D d33_171) ((if0 _ _).trans (flt ((by decide) : ¬ ((1 : Int32) < (0 : Int32)))).2.1) (by decide) (by decide) ?_
  refine g_aload X13 hx (D d33_179) rfl rfl ?_
  refine g_astore X13 hx #[vr a1, vr a2, vr a3, vr a7, vi 1, vn, vn, vn, vn, vn, vn, vn, vi 1, vu, vu] (D d33_181) rfl rfl ?_
  refine g_goto X13 hx 71 (D d33_183) (by decide) (by decide) ?_
  refine g_aload X13 hx (D d33_71) rfl rfl ?_
  refine g_nullYes X13 hx 186 (D d33_73) (by decide) (by decide) ?_
  refine g_aloadN X13 hx (D d33_186) rfl rfl ?_
  refine g_aloadN X13 hx (D d33_187) rfl rfl ?_
  refine g_aloadN X13 hx (D d33_188) rfl rfl ?_
  refine g_aloadN X13 hx (D d33_189) rfl rfl ?_
  refine g_V X13 hx hZ hown (lk13 hw) (rm_newNode_18 hw a1 a2 a3 a7 h0 n0 Z0 ) e13 O_a1.1 (D d33_190) hml.symm rfl rfl (Nat.le_refl _) (by decide) (fun v14 T14 L14 X14 q14 => ?_)
  obtain ⟨b14_0, rfl, M14, Kc14, zb14_0, Rk14_0⟩ := q14
  have N14 := Fr.app N13 M14
  have ne_a1_b14_0 : a1 ≠ b14_0 := Nat.ne_of_lt (Nat.lt_of_lt_of_le O_a1.1.lt zb14_0)
  have ne_a4_b14_0 : a4 ≠ b14_0 := Nat.ne_of_lt (Nat.lt_of_lt_of_le O_a4.1.lt zb14_0)
  have ne_a7_b14_0 : a7 ≠ b14_0 := Nat.ne_of_lt (Nat.lt_of_lt_of_le O_a7.1.lt zb14_0)
  have sz_b14_0 : h0.size ≤ b14_0 := Nat.le_trans K0.1 zb14_0
  have O_a1_14 := R_MP_keep O_a1 Kc14 nl
  have O_a4_14 := R_ND_keep O_a4 Kc14 nl
  have O_a7_14 := R_ND_keep O_a7 Kc14 nl
  have K14 := Keep.trans K0 Kc14 own_memn
  have Z14 : n0 ≤ T14.heap.size := Nat.le_trans Z0 Kc14.1
  refine g_astore X14 hx #[vr a1, vr a2, vr a3, vr a7, vi 1, vn, vn, vr b14_0, vn, vn, vn, vn, vi 1, vu, vu] (D d33_193) rfl rfl ?_
  refine g_aload X14 hx (D d33_195) rfl rfl ?_
  refine g_nonnullYes X14 hx 227 (D d33_197) (by decide) (by decide) ?_
  refine g_iload X14 hx (D d33_227) rfl ?_
  refine g_ifYes X14 hx 241 (D d33_229) ((if0 _ _).trans (flt ((by decide) : ¬ ((1 : Int32) < (0 : Int32)))).2.1) (by decide) (by decide) ?_
  refine g_aloadN X14 hx (D d33_241) rfl rfl ?_
  refine g_aload X14 hx (D d33_242) rfl rfl ?_
  refine g_putF X14 hx hZ hown (Wd103 hw) (rfl : T14.heap = T14.heap) O_a7_14.2.2.2.2.1 O_a7_14.1 (Or.inl (Wd104 hw)) (Wd76 hw) fd_2 rfl rfl (D d33_244) (fun T15 h15 X15 e15 W15 => ?_)
  have N15 := Fr.snoc X15 N14 g_a7
  have O_a1_15 := R_MP_other W15 O_a1_14 ne_a1_a7
  have O_a4_15 := R_ND_other W15 O_a4_14 ne_a4_a7
  have O_a7_15 := R_ND_set_right hw W15 O_a7_14
  have O_b14_0_15 := R_ND_other W15 Rk14_0 ne_a7_b14_0.symm
  have Z15 : n0 ≤ h15.size := Nat.le_trans Z14 (Nat.le_of_eq W15.size.symm)
  have K15 := Keep.wr K14 W15 (mw 2 rfl)
  refine g_aloadN X15 hx (D d33_247) rfl rfl ?_
  refine g_dup X15 hx (D d33_248) rfl ?_
  refine g_getF X15 hx hZ hown (Wd96 hw) e15 O_a1_15.2.2.2.1 (D d33_249) (fun T16 X16 e16 => ?_)
  refine g_iconst X16 hx (1 : Int32) (D d33_252) (by decide) ?_
  refine g_iadd X16 hx (D d33_253) ?_
  show Go p e below (T16.setTop (mkF m 254 #[vr a1, vr a2, vr a3, vr a7, vi 1, vn, vn, vr b14_0, vn, vn, vn, vn, vi 1, vu, vu] [(.int ((2 : Int32) + (1 : Int32))), (.ref a1)])) _
  rw [show ((2 : Int32) + (1 : Int32)) = (3 : Int32) from by decide]
  refine g_putF X16 hx hZ hown (Wd96 hw) e16 O_a1_15.2.2.2.1 O_a1_15.1 (Or.inl (Wd97 hw)) (Wd2 hw) fd_0 rfl rfl (D d33_254) (fun T17 h17 X17 e17 W17 => ?_)
  have N17 := Fr.snoc X17 N15 g_a1
  have O_a1_17 := R_MP_set_size hw W17 O_a1_15
  have O_a4_17 := R_ND_other W17 O_a4_15 ne_a1_a4.symm
  have O_a7_17 := R_ND_other W17 O_a7_15 ne_a1_a7.symm
  have O_b14_0_17 := R_ND_other W17 O_b14_0_15 ne_a1_b14_0.symm
  have Z17 : n0 ≤ h17.size := Nat.le_trans Z15 (Nat.le_of_eq W17.size.symm)
  have K17 := Keep.wr K15 W17 (mw 0 rfl)
  refine g_aloadN X17 hx (D d33_257) rfl rfl ?_
  refine g_aloadN X17 hx (D d33_258) rfl rfl ?_
  refine g_V X17 hx hZ hown (lk14 hw) (rm_refreshToRoot_20 hw a1 a7 h17 n0 Z17 ) e17 O_a1_17.1 (D d33_259) hml.symm rfl rfl (Nat.le_refl _) (by decide) (fun v18 T18 L18 X18 q18 => ?_)
  obtain ⟨rfl, M18, e18⟩ := q18
  have N18 := Fr.app N17 M18
  refine g_aloadN X18 hx (D d33_262) rfl rfl ?_
  refine g_aload X18 hx (D d33_263) rfl rfl ?_
  refine g_P X18 hx hZ hown (lk17 hw) (rm_balanceAfterInsert_112 hw a1 b14_0 a4 i1 a2 a3 a7 a5 a6 i2 a8 a9 i3 i4 h17 n0 Z17 O_a1_17 O_b14_0_17 O_a4_17 O_a7_17 ne_a1_b14_0 ne_a1_a4 ne_a1_a7 ne_a4_b14_0.symm ne_a7_b14_0.symm ne_a4_a7 g_a1 g_a4 g_a7 hk0 hk1 hk2 hk3) e18 O_a1_17.1 (D d33_265) hml.symm rfl rfl (Nat.le_refl _) (by decide) (fun v19 T19 L19 X19 q19 => ?_)
  obtain ⟨rfl, M19, Kc19, Rk19_0, Rk19_1, Rk19_2⟩ := q19
  have N19 := Fr.app N18 M19
  have O_b14_0_19 := R_ND_keep O_b14_0_17 Kc19 (own_nin ne_a1_b14_0.symm (own_nin ne_a4_b14_0.symm (own_nin ne_a7_b14_0.symm nl)))
  have K19 := Keep.trans K17 Kc19 (own_memc (mw 0 rfl) (own_memc (mw 1 rfl) (own_memc (mw 2 rfl) own_memn)))
  refine g_aloadN X19 hx (D d33_268) rfl rfl ?_
  refine g_dup X19 hx (D d33_269) rfl ?_
  refine g_getF X19 hx hZ hown (Wd98 hw) (rfl : T19.heap = T19.heap) Rk19_0.2.2.2.2 (D d33_270) (fun T20 X20 e20 => ?_)
  refine g_iconst X20 hx (1 : Int32) (D d33_273) (by decide) ?_
  refine g_iadd X20 hx (D d33_274) ?_
  refine g_putF X20 hx hZ hown (Wd98 hw) e20 Rk19_0.2.2.2.2 Rk19_0.1 (Or.inl (Wd99 hw)) (Wd2 hw) fd_0 rfl rfl (D d33_275) (fun T21 h21 X21 e21 W21 => ?_)
  have N21 := Fr.snoc X21 N19 g_a1
  have O_b14_0_21 := R_ND_other W21 O_b14_0_19 ne_a1_b14_0.symm
  have O_a1_21 := R_MP_set_modCount hw W21 Rk19_0
  have O_a4_21 := R_ND_other W21 Rk19_1 ne_a1_a4.symm
  have O_a7_21 := R_ND_other W21 Rk19_2 ne_a1_a7.symm
  have K21 := Keep.wr K19 W21 (mw 0 rfl)
  refine g_null X21 hx (D d33_278) ?_
  exact own_retA X21 hx hret hlk rfl rfl (D d33_279) (by decide) (by decide) (by rw [e21]; exact ⟨b14_0, rfl, N21, K21, sz_b14_0, O_a1_21, O_a4_21, O_a7_21, O_b14_0_21⟩)
theorem rm_put_110 (hw : HW a0 Z) (a1 a2 : Addr) (a3 a4 : Addr) (i1 i2 : Int32) (a5 a6 a7 : Addr) (i3 : Int32) (a8 a9 : Addr) (i4 : Int32) (h0 : Heap) (n0 : Nat) (Z0 : n0 ≤ h0.size) (O_a1 : R_MP Z h0 a1 .null (.ref a4) (.int 2) (.int i1)) (O_a2 : R_IN Z h0 a2 (.int i2)) (O_a4 : R_ND Z h0 a4 (.ref a5) (.ref a6) .null (.ref a7) .null (.int 0)) (O_a5 : R_IN Z h0 a5 (.int i3)) (O_a7 : R_ND Z h0 a7 (.ref a8) (.ref a9) .null .null (.ref a4) (.int (-2147483648))) (O_a8 : R_IN Z h0 a8 (.int i4)) (ne_a1_a4 : a1 ≠ a4) (ne_a1_a7 : a1 ≠ a7) (ne_a4_a7 : a4 ≠ a7) (g_a1 : n0 ≤ a1) (g_a4 : n0 ≤ a4) (g_a7 : n0 ≤ a7) (hk0 : ¬ (i2 < i3)) (hk1 : ¬ (i2 = i3)) (hk2 : ¬ (i2 < i4)) (hk3 : ¬ (i2 = i4)) :
    Ctr l Y20 B19 4 (some F3_) [] (rmk 5 1 6 79) Z #[(.ref a1), (.ref a2), (.ref a3)] h0 (fun v h L => ∃ f1, v = some .null ∧ Fr n0 L ∧ Keep h0 h [a1, a4, a7] ∧ h0.size ≤ f1 ∧ R_MP Z h a1 .null (.ref a7) (.int 3) (.int (i1 + (1 : Int32))) ∧ R_ND Z h a4 (.ref a5) (.ref a6) .null .null (.ref a7) (.int (-2147483648)) ∧ R_ND Z h a7 (.ref a8) (.ref a9) (.ref a4) (.ref f1) .null (.int 1) ∧ R_ND Z h f1 (.ref a2) (.ref a3) .null .null (.ref a7) (.int (-2147483648))) := by
  refine own_enter pn_2 (fun p e s m below meth c s₁ hx hby hml hown hnm hret hlk hZ X0 e0 => ?_)
  have N0 := Fr.nil n0
  have K0 := Keep.refl h0 [a1, a4, a7]
  rw [ef_7_RRR m _ _ _]
  refine g_aloadN X0 hx (hb hby d7_0) rfl rfl ?_
  refine g_aloadN X0 hx (hb hby d7_1) rfl rfl ?_
  refine g_aloadN X0 hx (hb hby d7_2) rfl rfl ?_
  refine g_PH X0 hx hZ hown (lk18 hw) (rm_addIfAbsent_111 hw a1 a2 a3 a4 i1 i2 a5 a6 a7 i3 a8 a9 i4 h0 n0 Z0 O_a1 O_a2 O_a4 O_a5 O_a7 O_a8 ne_a1_a4 ne_a1_a7 ne_a4_a7 g_a1 g_a4 g_a7 hk0 hk1 hk2 hk3) e0 O_a1.1 (hb hby d7_3) hml.symm rfl rfl (Nat.le_refl _) (by decide) (fun v1 T1 L1 X1 q1 => ?_)
  obtain ⟨b1_0, rfl, M1, Kc1, zb1_0, Rk1_0, Rk1_1, Rk1_2, Rk1_3⟩ := q1
  have N1 := Fr.app N0 M1
  have sz_b1_0 : h0.size ≤ b1_0 := Nat.le_trans K0.1 zb1_0
  have K1 := Keep.trans K0 Kc1 (own_memc (mw 0 rfl) (own_memc (mw 1 rfl) (own_memc (mw 2 rfl) own_memn)))
  refine g_astoreN X1 hx #[vr a1, vr a2, vr a3, vn] (hb hby d7_6) rfl rfl ?_
  refine g_aloadN X1 hx (hb hby d7_7) rfl rfl ?_
  refine g_nonnullNo X1 hx (hb hby d7_8) ?_
  refine g_null X1 hx (hb hby d7_11) ?_
  refine g_goto X1 hx 21 (hb hby d7_12) (by decide) (by decide) ?_
  exact own_retA X1 hx hret hlk rfl rfl (hb hby d7_21) (by decide) (by decide) (by rw [(rfl : T1.heap = T1.heap)]; exact ⟨b1_0, rfl, N1, K1, sz_b1_0, Rk1_0, Rk1_1, Rk1_2, Rk1_3⟩)
theorem seg_77_2R (hw : HW a0 Z) (wc : Addr) (clc : Cell) (p1 p2 : Int32) (p3 p4 : Int32) (p5 n : Int32) (M : Addr) (mc : Int32) (r t : Addr) (ky vy : Addr) (y : Int32) (km vm : Addr) (ma va : Int32) (m2 v2 : Int32) (h0 : Heap) (n0 : Nat) (Z0 : n0 ≤ h0.size) (hN : Z.heap.size ≤ n0) (C1 : Sta Z Z.heap "java/lang/Integer$IntegerCache" "high" "I" (.int 127)) (C2 : Sta Z Z.heap "java/lang/Integer$IntegerCache" "cache" "[Ljava/lang/Integer;" (.ref wc)) (BX : Bxs Z wc clc "java/lang/Integer" "I" (256 : Int32) (fun j => .int (j - (128 : Int32)))) (KO : Keep Z.heap h0 []) (O_M : R_MP Z h0 M .null (.ref r) (.int 2) (.int mc)) (O_r : R_ND Z h0 r (.ref km) (.ref vm) .null (.ref t) .null (.int 0)) (O_t : R_ND Z h0 t (.ref ky) (.ref vy) .null .null (.ref r) (.int (-2147483648))) (O_ky : R_IN Z h0 ky (.int y)) (O_km : R_IN Z h0 km (.int ma)) (O_vm : R_IN Z h0 vm (.int va)) (ne_M_r : M ≠ r) (ne_M_t : M ≠ t) (ne_M_ky : M ≠ ky) (ne_M_km : M ≠ km) (ne_M_vm : M ≠ vm) (ne_r_t : r ≠ t) (ne_r_ky : r ≠ ky) (ne_r_km : r ≠ km) (ne_r_vm : r ≠ vm) (ne_t_ky : t ≠ ky) (ne_t_km : t ≠ km) (ne_t_vm : t ≠ vm) (g_M : n0 ≤ M) (g_r : n0 ≤ r) (g_t : n0 ≤ t) (hn : ¬ n = (0 : Int32)) (ho : ma < y) (Tb : own_T n (2 : Int32) p3 p2 (0 : Int32) (1 : Int32) m2 v2) (Tc : own_T n (3 : Int32) p4 m2 v2 (2 : Int32) ma va) {p : Program} {e : Env} {s : State} {m : MethodId} {below : List Frame} {meth : Method} {c : Code} {args : Array Value} {s₁ : State} {lo : List Loc} (hx : p.tables.exec = Jvm.exec) (hby : c.code = code) (hml : c.maxLocals = maxLocals) (hown : s.vm.findClass "com/example/rosewood/rosewood/RosewoodMapFirstPinLaw" = some m.cls) (hnm : meth.name = "law") (hret : meth.sig.returnType = ret) (hlk : meth.locks = false) (hZ : Z.Warmed39 s.vm) (X0 : Stand p l e room_1 s m args below meth c s₁ lo 10 31) (e0 : s₁.heap = h0) (N0 : Fr n0 lo) :
    Go p e below (s₁.setTop (mkF m 77 #[vi p1, vi p2, vi p3, vi p4, vi p5, vi n, vr M, vu, vu, vu] [])) (FinE s room_1.cells room_1.slots (fun v h L => v = some (.int 1) ∧ Fr n0 L)) := by
  refine g_iload X0 hx (hb hby at_77) rfl ?_
  refine g_iconst X0 hx (4 : Int32) (hb hby at_79) (by decide) ?_
  by_cases c80_1 : n < (4 : Int32)
  · refine g_icmpYes X0 hx 98 (hb hby at_80) (tlt c80_1).1 (by decide) (by decide) ?_
    exact seg_98_D1 hw p1 p2 p3 p4 p5 n M mc (2 : Int32) r (.ref t) (0 : Int32) km vm ma va m2 v2 ma va h0 n0 Z0 O_M O_r O_km O_vm ne_M_r ne_M_km ne_M_vm ne_r_km ne_r_vm g_M g_r hn Tb Tc (by have u0 : ¬ (n = (0 : Int32)) := hn; have u1 : n < (4 : Int32) := c80_1; have u2 := hn; have u3 := ho; have u4 := Tb; have u5 := Tc; (try simp only [own_T, own_R, Int32.lt_iff_toInt_lt, ← Int32.toInt_inj, Int32.reduceToInt] at u0 u1 u2 u3 u4 u5) <;> (try simp only [own_T, own_R, Int32.lt_iff_toInt_lt, ← Int32.toInt_inj, Int32.reduceToInt]) <;> first | omega | (simp; done) | (simp; omega)) hx hby hml hown hnm hret hlk hZ (Stand.more X0 (by decide) (by decide)) e0 N0
  · refine g_icmpNo X0 hx (hb hby at_80) (flt c80_1).1 ?_
    refine g_aload X0 hx (hb hby at_83) rfl rfl ?_
    refine g_iload X0 hx (hb hby at_85) rfl ?_
    refine g_S X0 hx hZ hown (lk5 hw) (rm_valueOf hw wc clc p5 h0 n0 Z0 hN C1 C2 BX KO) e0 (hb hby at_87) hml.symm rfl (rest := [(.ref M)]) rfl (W := 1) (Nat.le_of_eq rfl) (by decide) (fun v2 T2 L2 X2 q2 => ?_)
    obtain ⟨b2, rfl, M2, Kc2, O2⟩ := q2
    have N2 := Fr.app N0 M2
    have O_M_2 := R_MP_keep O_M Kc2 nl
    have O_r_2 := R_ND_keep O_r Kc2 nl
    have O_t_2 := R_ND_keep O_t Kc2 nl
    have O_ky_2 := R_IN_keep O_ky Kc2 nl
    have O_km_2 := R_IN_keep O_km Kc2 nl
    have O_vm_2 := R_IN_keep O_vm Kc2 nl
    have KO_2 := Keep.trans KO Kc2 own_memn
    have ne_M_b2 : M ≠ b2 := own_exane O_M_2.1 O2.1 (by decide)
    have ne_r_b2 : r ≠ b2 := own_exane O_r_2.1 O2.1 (by decide)
    have Z2 : n0 ≤ T2.heap.size := Nat.le_trans Z0 Kc2.1
    refine g_iconst X2 hx (3 : Int32) (hb hby at_90) (by decide) ?_
    refine g_S X2 hx hZ hown (lk5 hw) (rm_valueOf hw wc clc (3 : Int32) T2.heap n0 Z2 hN C1 C2 BX KO_2) (rfl : T2.heap = T2.heap) (hb hby at_91) hml.symm rfl (rest := [(.ref b2), (.ref M)]) rfl (W := 2) (Nat.le_of_eq rfl) (by decide) (fun v3 T3 L3 X3 q3 => ?_)
    obtain ⟨b3, rfl, M3, Kc3, O3⟩ := q3
    have N3 := Fr.app N2 M3
    have O_M_3 := R_MP_keep O_M_2 Kc3 nl
    have O_r_3 := R_ND_keep O_r_2 Kc3 nl
    have O_t_3 := R_ND_keep O_t_2 Kc3 nl
    have O_ky_3 := R_IN_keep O_ky_2 Kc3 nl
    have O_km_3 := R_IN_keep O_km_2 Kc3 nl
    have O_vm_3 := R_IN_keep O_vm_2 Kc3 nl
    have O_b2_3 := R_IN_keep O2 Kc3 nl
    have ne_M_b3 : M ≠ b3 := own_exane O_M_3.1 O3.1 (by decide)
    have ne_r_b3 : r ≠ b3 := own_exane O_r_3.1 O3.1 (by decide)
    have Z3 : n0 ≤ T3.heap.size := Nat.le_trans Z2 Kc3.1
    rcases own_tri p5 ma with t94_4 | ⟨t94_4, t94_4'⟩ | ⟨t94_4, t94_4'⟩
    · refine g_V X3 hx hZ hown (lk19 hw) (rm_put_86 hw M b2 b3 r mc p5 km vm t ma ky vy T3.heap n0 Z3 O_M_3 O_b2_3 O_r_3 O_km_3 O_t_3 ne_M_r g_M g_r t94_4) (rfl : T3.heap = T3.heap) O_M_3.1 (hb hby at_94) hml.symm rfl rfl (Nat.le_refl _) (by decide) (fun v5 T5 L5 X5 q5 => ?_)
      obtain ⟨b5_0, rfl, M5, Kc5, zb5_0, Rk5_0, Rk5_1, Rk5_2⟩ := q5
      have N5 := Fr.app N3 M5
      have ne_M_b5_0 : M ≠ b5_0 := Nat.ne_of_lt (Nat.lt_of_lt_of_le O_M_3.1.lt zb5_0)
      have ne_r_b5_0 : r ≠ b5_0 := Nat.ne_of_lt (Nat.lt_of_lt_of_le O_r_3.1.lt zb5_0)
      have ne_b2_b5_0 : b2 ≠ b5_0 := Nat.ne_of_lt (Nat.lt_of_lt_of_le O_b2_3.1.lt zb5_0)
      have ne_b3_b5_0 : b3 ≠ b5_0 := Nat.ne_of_lt (Nat.lt_of_lt_of_le O3.1.lt zb5_0)
      have g_b5_0 : n0 ≤ b5_0 := Nat.le_trans Z3 zb5_0
      have O_b2_5 := R_IN_keep O_b2_3 Kc5 (own_nin ne_M_b2.symm (own_nin ne_r_b2.symm nl))
      have O_b3_5 := R_IN_keep O3 Kc5 (own_nin ne_M_b3.symm (own_nin ne_r_b3.symm nl))
      have Z5 : n0 ≤ T5.heap.size := Nat.le_trans Z3 Kc5.1
      refine g_pop X5 hx (hb hby at_97) rfl ?_
      exact seg_98_D2 hw p1 p2 p3 p4 p5 n M (mc + (1 : Int32)) (3 : Int32) r (.ref t) (1 : Int32) km vm b5_0 .null (-2147483648 : Int32) b2 b3 p5 (3 : Int32) m2 v2 ma va T5.heap n0 Z5 Rk5_0 Rk5_1 Rk5_2 O_b2_5 O_b3_5 ne_M_r ne_M_b5_0 ne_M_b2 ne_M_b3 ne_r_b5_0 ne_r_b2 ne_r_b3 ne_b2_b5_0.symm ne_b3_b5_0.symm g_M g_r g_b5_0 hn Tb Tc (by have u0 : ¬ (n = (0 : Int32)) := hn; have u1 : ¬ (n < (4 : Int32)) := c80_1; have u2 : p5 < ma := t94_4; have u3 := hn; have u4 := ho; have u5 := Tb; have u6 := Tc; (try simp only [own_T, own_R, Int32.lt_iff_toInt_lt, ← Int32.toInt_inj, Int32.reduceToInt] at u0 u1 u2 u3 u4 u5 u6) <;> (try simp only [own_T, own_R, Int32.lt_iff_toInt_lt, ← Int32.toInt_inj, Int32.reduceToInt]) <;> first | omega | (simp; done) | (simp; omega)) hx hby hml hown hnm hret hlk hZ (Stand.more X5 (by decide) (by decide)) (rfl : T5.heap = T5.heap) N5
    · refine g_V X3 hx hZ hown (lk19 hw) (rm_put_90 hw M b2 b3 r mc p5 km vm t ma ky vy T3.heap n0 Z3 O_M_3 O_b2_3 O_r_3 O_km_3 O_t_3 g_r t94_4 t94_4') (rfl : T3.heap = T3.heap) O_M_3.1 (hb hby at_94) hml.symm rfl rfl (Nat.le_refl _) (by decide) (fun v6 T6 L6 X6 q6 => ?_)
      obtain ⟨rfl, M6, Kc6, Rk6_0⟩ := q6
      have N6 := Fr.app N3 M6
      have O_M_6 := R_MP_keep O_M_3 Kc6 (own_nin ne_M_r nl)
      have O_km_6 := R_IN_keep O_km_3 Kc6 (own_nin ne_r_km.symm nl)
      have O_b3_6 := R_IN_keep O3 Kc6 (own_nin ne_r_b3.symm nl)
      have Z6 : n0 ≤ T6.heap.size := Nat.le_trans Z3 Kc6.1
      refine g_pop X6 hx (hb hby at_97) rfl ?_
      exact seg_98_D1 hw p1 p2 p3 p4 p5 n M mc (2 : Int32) r (.ref t) (0 : Int32) km b3 ma (3 : Int32) m2 v2 ma va T6.heap n0 Z6 O_M_6 Rk6_0 O_km_6 O_b3_6 ne_M_r ne_M_km ne_M_b3 ne_r_km ne_r_b3 g_M g_r hn Tb Tc (by have u0 : ¬ (n = (0 : Int32)) := hn; have u1 : ¬ (n < (4 : Int32)) := c80_1; have u2 : ¬ (p5 < ma) := t94_4; have u3 : p5 = ma := t94_4'; have u4 := hn; have u5 := ho; have u6 := Tb; have u7 := Tc; (try simp only [own_T, own_R, Int32.lt_iff_toInt_lt, ← Int32.toInt_inj, Int32.reduceToInt] at u0 u1 u2 u3 u4 u5 u6 u7) <;> (try simp only [own_T, own_R, Int32.lt_iff_toInt_lt, ← Int32.toInt_inj, Int32.reduceToInt]) <;> first | omega | (simp; done) | (simp; omega)) hx hby hml hown hnm hret hlk hZ (Stand.more X6 (by decide) (by decide)) (rfl : T6.heap = T6.heap) N6
    · rcases own_tri p5 y with t94_7 | ⟨t94_7, t94_7'⟩ | ⟨t94_7, t94_7'⟩
      · refine g_V X3 hx hZ hown (lk19 hw) (rm_put_94 hw M b2 b3 r mc p5 km vm t ma ky vy y T3.heap n0 Z3 O_M_3 O_b2_3 O_r_3 O_km_3 O_t_3 O_ky_3 ne_M_r ne_M_t ne_r_t g_M g_r g_t t94_4 t94_4' t94_7) (rfl : T3.heap = T3.heap) O_M_3.1 (hb hby at_94) hml.symm rfl rfl (Nat.le_refl _) (by decide) (fun v8 T8 L8 X8 q8 => ?_)
        obtain ⟨b8_0, rfl, M8, Kc8, zb8_0, Rk8_0, Rk8_1, Rk8_2, Rk8_3⟩ := q8
        have N8 := Fr.app N3 M8
        have ne_M_b8_0 : M ≠ b8_0 := Nat.ne_of_lt (Nat.lt_of_lt_of_le O_M_3.1.lt zb8_0)
        have ne_r_b8_0 : r ≠ b8_0 := Nat.ne_of_lt (Nat.lt_of_lt_of_le O_r_3.1.lt zb8_0)
        have ne_km_b8_0 : km ≠ b8_0 := Nat.ne_of_lt (Nat.lt_of_lt_of_le O_km_3.1.lt zb8_0)
        have ne_vm_b8_0 : vm ≠ b8_0 := Nat.ne_of_lt (Nat.lt_of_lt_of_le O_vm_3.1.lt zb8_0)
        have g_b8_0 : n0 ≤ b8_0 := Nat.le_trans Z3 zb8_0
        have O_km_8 := R_IN_keep O_km_3 Kc8 (own_nin ne_M_km.symm (own_nin ne_r_km.symm (own_nin ne_t_km.symm nl)))
        have O_vm_8 := R_IN_keep O_vm_3 Kc8 (own_nin ne_M_vm.symm (own_nin ne_r_vm.symm (own_nin ne_t_vm.symm nl)))
        have Z8 : n0 ≤ T8.heap.size := Nat.le_trans Z3 Kc8.1
        refine g_pop X8 hx (hb hby at_97) rfl ?_
        exact seg_98_D2 hw p1 p2 p3 p4 p5 n M (mc + (1 : Int32)) (3 : Int32) b8_0 (.ref t) (1 : Int32) b2 b3 r .null (-2147483648 : Int32) km vm ma va m2 v2 ma va T8.heap n0 Z8 Rk8_0 Rk8_3 Rk8_1 O_km_8 O_vm_8 ne_M_b8_0 ne_M_r ne_M_km ne_M_vm ne_r_b8_0.symm ne_km_b8_0.symm ne_vm_b8_0.symm ne_r_km ne_r_vm g_M g_b8_0 g_r hn Tb Tc (by have u0 : ¬ (n = (0 : Int32)) := hn; have u1 : ¬ (n < (4 : Int32)) := c80_1; have u2 : ¬ (p5 < ma) := t94_4; have u3 : ¬ (p5 = ma) := t94_4'; have u4 : p5 < y := t94_7; have u5 := hn; have u6 := ho; have u7 := Tb; have u8 := Tc; (try simp only [own_T, own_R, Int32.lt_iff_toInt_lt, ← Int32.toInt_inj, Int32.reduceToInt] at u0 u1 u2 u3 u4 u5 u6 u7 u8) <;> (try simp only [own_T, own_R, Int32.lt_iff_toInt_lt, ← Int32.toInt_inj, Int32.reduceToInt]) <;> first | omega | (simp; done) | (simp; omega)) hx hby hml hown hnm hret hlk hZ (Stand.more X8 (by decide) (by decide)) (rfl : T8.heap = T8.heap) N8
      · refine g_V X3 hx hZ hown (lk19 hw) (rm_put_106 hw M b2 b3 r mc p5 km vm t ma ky vy y T3.heap n0 Z3 O_M_3 O_b2_3 O_r_3 O_km_3 O_t_3 O_ky_3 g_t t94_4 t94_4' t94_7 t94_7') (rfl : T3.heap = T3.heap) O_M_3.1 (hb hby at_94) hml.symm rfl rfl (Nat.le_refl _) (by decide) (fun v9 T9 L9 X9 q9 => ?_)
        obtain ⟨rfl, M9, Kc9, Rk9_0⟩ := q9
        have N9 := Fr.app N3 M9
        have O_M_9 := R_MP_keep O_M_3 Kc9 (own_nin ne_M_t nl)
        have O_r_9 := R_ND_keep O_r_3 Kc9 (own_nin ne_r_t nl)
        have O_km_9 := R_IN_keep O_km_3 Kc9 (own_nin ne_t_km.symm nl)
        have O_vm_9 := R_IN_keep O_vm_3 Kc9 (own_nin ne_t_vm.symm nl)
        have Z9 : n0 ≤ T9.heap.size := Nat.le_trans Z3 Kc9.1
        refine g_pop X9 hx (hb hby at_97) rfl ?_
        exact seg_98_D1 hw p1 p2 p3 p4 p5 n M mc (2 : Int32) r (.ref t) (0 : Int32) km vm ma va m2 v2 ma va T9.heap n0 Z9 O_M_9 O_r_9 O_km_9 O_vm_9 ne_M_r ne_M_km ne_M_vm ne_r_km ne_r_vm g_M g_r hn Tb Tc (by have u0 : ¬ (n = (0 : Int32)) := hn; have u1 : ¬ (n < (4 : Int32)) := c80_1; have u2 : ¬ (p5 < ma) := t94_4; have u3 : ¬ (p5 = ma) := t94_4'; have u4 : ¬ (p5 < y) := t94_7; have u5 : p5 = y := t94_7'; have u6 := hn; have u7 := ho; have u8 := Tb; have u9 := Tc; (try simp only [own_T, own_R, Int32.lt_iff_toInt_lt, ← Int32.toInt_inj, Int32.reduceToInt] at u0 u1 u2 u3 u4 u5 u6 u7 u8 u9) <;> (try simp only [own_T, own_R, Int32.lt_iff_toInt_lt, ← Int32.toInt_inj, Int32.reduceToInt]) <;> first | omega | (simp; done) | (simp; omega)) hx hby hml hown hnm hret hlk hZ (Stand.more X9 (by decide) (by decide)) (rfl : T9.heap = T9.heap) N9
      · refine g_V X3 hx hZ hown (lk19 hw) (rm_put_110 hw M b2 b3 r mc p5 km vm t ma ky vy y T3.heap n0 Z3 O_M_3 O_b2_3 O_r_3 O_km_3 O_t_3 O_ky_3 ne_M_r ne_M_t ne_r_t g_M g_r g_t t94_4 t94_4' t94_7 t94_7') (rfl : T3.heap = T3.heap) O_M_3.1 (hb hby at_94) hml.symm rfl rfl (Nat.le_refl _) (by decide) (fun v10 T10 L10 X10 q10 => ?_)
        obtain ⟨b10_0, rfl, M10, Kc10, zb10_0, Rk10_0, Rk10_1, Rk10_2, Rk10_3⟩ := q10
        have N10 := Fr.app N3 M10
        have O_km_10 := R_IN_keep O_km_3 Kc10 (own_nin ne_M_km.symm (own_nin ne_r_km.symm (own_nin ne_t_km.symm nl)))
        have O_vm_10 := R_IN_keep O_vm_3 Kc10 (own_nin ne_M_vm.symm (own_nin ne_r_vm.symm (own_nin ne_t_vm.symm nl)))
        have Z10 : n0 ≤ T10.heap.size := Nat.le_trans Z3 Kc10.1
        refine g_pop X10 hx (hb hby at_97) rfl ?_
        exact seg_98_D2 hw p1 p2 p3 p4 p5 n M (mc + (1 : Int32)) (3 : Int32) t (.ref b10_0) (1 : Int32) ky vy r .null (-2147483648 : Int32) km vm ma va m2 v2 ma va T10.heap n0 Z10 Rk10_0 Rk10_2 Rk10_1 O_km_10 O_vm_10 ne_M_t ne_M_r ne_M_km ne_M_vm ne_r_t.symm ne_t_km ne_t_vm ne_r_km ne_r_vm g_M g_t g_r hn Tb Tc (by have u0 : ¬ (n = (0 : Int32)) := hn; have u1 : ¬ (n < (4 : Int32)) := c80_1; have u2 : ¬ (p5 < ma) := t94_4; have u3 : ¬ (p5 = ma) := t94_4'; have u4 : ¬ (p5 < y) := t94_7; have u5 : ¬ (p5 = y) := t94_7'; have u6 := hn; have u7 := ho; have u8 := Tb; have u9 := Tc; (try simp only [own_T, own_R, Int32.lt_iff_toInt_lt, ← Int32.toInt_inj, Int32.reduceToInt] at u0 u1 u2 u3 u4 u5 u6 u7 u8 u9) <;> (try simp only [own_T, own_R, Int32.lt_iff_toInt_lt, ← Int32.toInt_inj, Int32.reduceToInt]) <;> first | omega | (simp; done) | (simp; omega)) hx hby hml hown hnm hret hlk hZ (Stand.more X10 (by decide) (by decide)) (rfl : T10.heap = T10.heap) N10
theorem rm_compare_117 (hw : HW a0 Z) (a1 a2 : Addr) (a3 a4 : Addr) (i1 i2 i3 : Int32) (h0 : Heap) (n0 : Nat) (Z0 : n0 ≤ h0.size) (O_a1 : R_MP Z h0 a1 .null (.ref a4) (.int 3) (.int i1)) (O_a2 : R_IN Z h0 a2 (.int i2)) (O_a3 : R_IN Z h0 a3 (.int i3)) (hk0 : i2 < i3) :
    Ctr l Y11 B10 3 (some FieldType.int) [] (rmk 3 0 0 39) Z #[(.ref a1), (.ref a2), (.ref a3)] h0 (fun v h L => v = some (.int (-1)) ∧ Fr n0 L ∧ h = h0) := by
  refine own_enter pn_2 (fun p e s m below meth c s₁ hx hby hml hown hnm hret hlk hZ X0 e0 => ?_)
  have N0 := Fr.nil n0
  have K0 := Keep.refl h0 []
  rw [ef_8_RRR m _ _ _]
  refine g_aloadN X0 hx (hb hby d8_0) rfl rfl ?_
  refine g_getF X0 hx hZ hown (Wd18 hw) e0 O_a1.2.1 (hb hby d8_1) (fun T1 X1 e1 => ?_)
  refine g_nonnullNo X1 hx (hb hby d8_4) ?_
  refine g_aloadN X1 hx (hb hby d8_7) rfl rfl ?_
  refine g_cast X1 hx hZ hown (Wd48 hw) e1 (Ins.of_exa O_a2.1 (Wd49 hw)) (hb hby d8_8) (fun T2 X2 e2 => ?_)
  refine g_aloadN X2 hx (hb hby d8_11) rfl rfl ?_
  refine g_F X2 hx hZ hown (lk9 hw) (mvT hZ (Wd52 hw)) (rm_compareTo_14 hw a2 a3 i2 i3 h0 n0 Z0 O_a2 O_a3 hk0) e2 O_a2.1 (hb hby d8_12) hml.symm rfl rfl (Nat.le_refl _) (by decide) (fun v3 T3 L3 X3 q3 => ?_)
  obtain ⟨rfl, M3, e3⟩ := q3
  have N3 := Fr.app N0 M3
  refine g_goto X3 hx 31 (hb hby d8_17) (by decide) (by decide) ?_
  exact own_retI X3 hx hret hlk (hb hby d8_31) (by decide) (by decide) ⟨rfl, N3, e3⟩
theorem rm_addToLeftCount_118 (hw : HW a0 Z) (a1 a2 : Addr) (a3 a4 a5 : Addr) (h0 : Heap) (n0 : Nat) (Z0 : n0 ≤ h0.size) (O_a1 : R_ND Z h0 a1 (.ref a2) (.ref a3) (.ref a4) (.ref a5) .null (.int 1)) (g_a1 : n0 ≤ a1) :
    Ctr l Y12 B11 2 none [] (rmk 0 0 0 0) Z #[(.ref a1), (.int 1)] h0 (fun v h L => v = none ∧ Fr n0 L ∧ Keep h0 h [a1] ∧ R_ND Z h a1 (.ref a2) (.ref a3) (.ref a4) (.ref a5) .null (.int 2)) := by
  refine own_enter pn_2 (fun p e s m below meth c s₁ hx hby hml hown hnm hret hlk hZ X0 e0 => ?_)
  have N0 := Fr.nil n0
  have K0 := Keep.refl h0 [a1]
  rw [ef_22_RI m _ _]
  refine g_aloadN X0 hx (hb hby d22_0) rfl rfl ?_
  refine g_dup X0 hx (hb hby d22_1) rfl ?_
  refine g_getF X0 hx hZ hown (Wd94 hw) e0 O_a1.2.2.2.2.2.2 (hb hby d22_2) (fun T1 X1 e1 => ?_)
  refine g_iloadN X1 hx (hb hby d22_5) rfl ?_
  refine g_iadd X1 hx (hb hby d22_6) ?_
  show Go p e below (T1.setTop (mkF m 7 #[vr a1, vi 1] [(.int ((1 : Int32) + (1 : Int32))), (.ref a1)])) _
  rw [show ((1 : Int32) + (1 : Int32)) = (2 : Int32) from by decide]
  refine g_putF X1 hx hZ hown (Wd94 hw) e1 O_a1.2.2.2.2.2.2 O_a1.1 (Or.inl (Wd84 hw)) (Wd76 hw) fd_0 rfl rfl (hb hby d22_7) (fun T2 h2 X2 e2 W2 => ?_)
  have N2 := Fr.snoc X2 N0 g_a1
  have O_a1_2 := R_ND_set_redAndLeftCount hw W2 O_a1
  have K2 := Keep.wr K0 W2 (mw 0 rfl)
  exact own_retV X2 hx hret hlk (hb hby d22_10) (by decide) (by decide) (by rw [e2]; exact ⟨rfl, N2, K2, O_a1_2⟩)
theorem rm_isRed_120 (hw : HW a0 Z) (a1 a2 : Addr) (a3 a4 : Addr) (h0 : Heap) (n0 : Nat) (Z0 : n0 ≤ h0.size) (O_a1 : R_ND Z h0 a1 (.ref a2) (.ref a3) .null .null (.ref a4) (.int (-2147483648))) :
    Ctr l Y16 B15 1 (some FieldType.boolean) [] (rmk 0 0 0 0) Z #[(.ref a1)] h0 (fun v h L => v = some (.int 1) ∧ Fr n0 L ∧ h = h0) := by
  refine own_enter pn_2 (fun p e s m below meth c s₁ hx hby hml hown hnm hret hlk hZ X0 e0 => ?_)
  have N0 := Fr.nil n0
  have K0 := Keep.refl h0 []
  rw [ef_18_R m _]
  refine g_aloadN X0 hx (hb hby d18_0) rfl rfl ?_
  refine g_nullNo X0 hx (hb hby d18_1) ?_
  refine g_aloadN X0 hx (hb hby d18_4) rfl rfl ?_
  refine g_getF X0 hx hZ hown (Wd94 hw) e0 O_a1.2.2.2.2.2.2 (hb hby d18_5) (fun T1 X1 e1 => ?_)
  refine g_ifNo X1 hx (hb hby d18_8) ((if0 _ _).trans (tlt ((by decide) : (-2147483648 : Int32) < (0 : Int32))).2.1) ?_
  refine g_iconst X1 hx (1 : Int32) (hb hby d18_11) (by decide) ?_
  refine g_goto X1 hx 16 (hb hby d18_12) (by decide) (by decide) ?_
  exact own_retZ X1 hx hret hlk (hb hby d18_16) (by decide) (by decide) (by decide) ⟨rfl, N0, e1⟩
theorem rm_setRed_121 (hw : HW a0 Z) (a1 a2 : Addr) (a3 a4 : Addr) (h0 : Heap) (n0 : Nat) (Z0 : n0 ≤ h0.size) (O_a1 : R_ND Z h0 a1 (.ref a2) (.ref a3) .null .null (.ref a4) (.int (-2147483648))) (g_a1 : n0 ≤ a1) :
    Ctr l Y17 B16 2 none [] (rmk 0 0 0 0) Z #[(.ref a1), (.int 0)] h0 (fun v h L => v = none ∧ Fr n0 L ∧ Keep h0 h [a1] ∧ R_ND Z h a1 (.ref a2) (.ref a3) .null .null (.ref a4) (.int 0)) := by
  refine own_enter pn_2 (fun p e s m below meth c s₁ hx hby hml hown hnm hret hlk hZ X0 e0 => ?_)
  have N0 := Fr.nil n0
  have K0 := Keep.refl h0 [a1]
  rw [ef_14_RI m _ _]
  refine g_aloadN X0 hx (hb hby d14_0) rfl rfl ?_
  refine g_iloadN X0 hx (hb hby d14_1) rfl ?_
  refine g_ifYes X0 hx 16 (hb hby d14_2) ((if0 _ _).trans (teq ((by decide) : (0 : Int32) = (0 : Int32))).1) (by decide) (by decide) ?_
  refine g_aloadN X0 hx (hb hby d14_16) rfl rfl ?_
  refine g_getF X0 hx hZ hown (Wd94 hw) e0 O_a1.2.2.2.2.2.2 (hb hby d14_17) (fun T1 X1 e1 => ?_)
  refine g_ldcw X1 hx hZ hown (Wd95 hw) (hb hby d14_20) ?_
  refine g_iand X1 hx (hb hby d14_23) ?_
  show Go p e below (T1.setTop (mkF m 24 #[vr a1, vi 0] [(.int ((-2147483648 : Int32) &&& (2147483647 : Int32))), (.ref a1)])) _
  rw [show ((-2147483648 : Int32) &&& (2147483647 : Int32)) = (0 : Int32) from by decide]
  refine g_putF X1 hx hZ hown (Wd94 hw) e1 O_a1.2.2.2.2.2.2 O_a1.1 (Or.inl (Wd84 hw)) (Wd76 hw) fd_0 rfl rfl (hb hby d14_24) (fun T2 h2 X2 e2 W2 => ?_)
  have N2 := Fr.snoc X2 N0 g_a1
  have O_a1_2 := R_ND_set_redAndLeftCount hw W2 O_a1
  have K2 := Keep.wr K0 W2 (mw 0 rfl)
  exact own_retV X2 hx hret hlk (hb hby d14_27) (by decide) (by decide) (by rw [e2]; exact ⟨rfl, N2, K2, O_a1_2⟩)
theorem rm_setRed_122 (hw : HW a0 Z) (a1 a2 : Addr) (a3 a4 a5 : Addr) (h0 : Heap) (n0 : Nat) (Z0 : n0 ≤ h0.size) (O_a1 : R_ND Z h0 a1 (.ref a2) (.ref a3) (.ref a4) (.ref a5) .null (.int 2)) (g_a1 : n0 ≤ a1) :
    Ctr l Y17 B16 2 none [] (rmk 0 0 0 0) Z #[(.ref a1), (.int 1)] h0 (fun v h L => v = none ∧ Fr n0 L ∧ Keep h0 h [a1] ∧ R_ND Z h a1 (.ref a2) (.ref a3) (.ref a4) (.ref a5) .null (.int (-2147483646))) := by
  refine own_enter pn_2 (fun p e s m below meth c s₁ hx hby hml hown hnm hret hlk hZ X0 e0 => ?_)
  have N0 := Fr.nil n0
  have K0 := Keep.refl h0 [a1]
  rw [ef_14_RI m _ _]
  refine g_aloadN X0 hx (hb hby d14_0) rfl rfl ?_
  refine g_iloadN X0 hx (hb hby d14_1) rfl ?_
  refine g_ifNo X0 hx (hb hby d14_2) ((if0 _ _).trans (feq ((by decide) : ¬ ((1 : Int32) = (0 : Int32)))).1) ?_
  refine g_aloadN X0 hx (hb hby d14_5) rfl rfl ?_
  refine g_getF X0 hx hZ hown (Wd94 hw) e0 O_a1.2.2.2.2.2.2 (hb hby d14_6) (fun T1 X1 e1 => ?_)
  refine g_ldcw X1 hx hZ hown (Wd121 hw) (hb hby d14_9) ?_
  refine g_ior X1 hx (hb hby d14_12) ?_
  show Go p e below (T1.setTop (mkF m 13 #[vr a1, vi 1] [(.int ((2 : Int32) ||| (-2147483648 : Int32))), (.ref a1)])) _
  rw [show ((2 : Int32) ||| (-2147483648 : Int32)) = (-2147483646 : Int32) from by decide]
  refine g_goto X1 hx 24 (hb hby d14_13) (by decide) (by decide) ?_
  refine g_putF X1 hx hZ hown (Wd94 hw) e1 O_a1.2.2.2.2.2.2 O_a1.1 (Or.inl (Wd84 hw)) (Wd76 hw) fd_0 rfl rfl (hb hby d14_24) (fun T2 h2 X2 e2 W2 => ?_)
  have N2 := Fr.snoc X2 N0 g_a1
  have O_a1_2 := R_ND_set_redAndLeftCount hw W2 O_a1
  have K2 := Keep.wr K0 W2 (mw 0 rfl)
  exact own_retV X2 hx hret hlk (hb hby d14_27) (by decide) (by decide) (by rw [e2]; exact ⟨rfl, N2, K2, O_a1_2⟩)
theorem rm_setRed_123 (hw : HW a0 Z) (a1 a2 : Addr) (a3 a4 a5 : Addr) (h0 : Heap) (n0 : Nat) (Z0 : n0 ≤ h0.size) (O_a1 : R_ND Z h0 a1 (.ref a2) (.ref a3) (.ref a4) (.ref a5) .null (.int (-2147483646))) (g_a1 : n0 ≤ a1) :
    Ctr l Y17 B16 2 none [] (rmk 0 0 0 0) Z #[(.ref a1), (.int 0)] h0 (fun v h L => v = none ∧ Fr n0 L ∧ Keep h0 h [a1] ∧ R_ND Z h a1 (.ref a2) (.ref a3) (.ref a4) (.ref a5) .null (.int 2)) := by
  refine own_enter pn_2 (fun p e s m below meth c s₁ hx hby hml hown hnm hret hlk hZ X0 e0 => ?_)
  have N0 := Fr.nil n0
  have K0 := Keep.refl h0 [a1]
  rw [ef_14_RI m _ _]
  refine g_aloadN X0 hx (hb hby d14_0) rfl rfl ?_
  refine g_iloadN X0 hx (hb hby d14_1) rfl ?_
  refine g_ifYes X0 hx 16 (hb hby d14_2) ((if0 _ _).trans (teq ((by decide) : (0 : Int32) = (0 : Int32))).1) (by decide) (by decide) ?_
  refine g_aloadN X0 hx (hb hby d14_16) rfl rfl ?_
  refine g_getF X0 hx hZ hown (Wd94 hw) e0 O_a1.2.2.2.2.2.2 (hb hby d14_17) (fun T1 X1 e1 => ?_)
  refine g_ldcw X1 hx hZ hown (Wd95 hw) (hb hby d14_20) ?_
  refine g_iand X1 hx (hb hby d14_23) ?_
  show Go p e below (T1.setTop (mkF m 24 #[vr a1, vi 0] [(.int ((-2147483646 : Int32) &&& (2147483647 : Int32))), (.ref a1)])) _
  rw [show ((-2147483646 : Int32) &&& (2147483647 : Int32)) = (2 : Int32) from by decide]
  refine g_putF X1 hx hZ hown (Wd94 hw) e1 O_a1.2.2.2.2.2.2 O_a1.1 (Or.inl (Wd84 hw)) (Wd76 hw) fd_0 rfl rfl (hb hby d14_24) (fun T2 h2 X2 e2 W2 => ?_)
  have N2 := Fr.snoc X2 N0 g_a1
  have O_a1_2 := R_ND_set_redAndLeftCount hw W2 O_a1
  have K2 := Keep.wr K0 W2 (mw 0 rfl)
  exact own_retV X2 hx hret hlk (hb hby d14_27) (by decide) (by decide) (by rw [e2]; exact ⟨rfl, N2, K2, O_a1_2⟩)
theorem d17_47 : decode B17 47 = .ok (.aload_n 3, 1) := by decide +kernel
theorem d17_48 : decode B17 48 = .ok (.iconst 0, 1) := by decide +kernel
theorem d17_49 : decode B17 49 = .ok (.invokestatic 237, 3) := by decide +kernel
theorem d17_52 : decode B17 52 = .ok (.aload 5, 2) := by decide +kernel
theorem d17_54 : decode B17 54 = .ok (.iconst 0, 1) := by decide +kernel
theorem d17_55 : decode B17 55 = .ok (.invokestatic 237, 3) := by decide +kernel
theorem d17_58 : decode B17 58 = .ok (.aload 4, 2) := by decide +kernel
theorem d17_60 : decode B17 60 = .ok (.iconst 1, 1) := by decide +kernel
theorem d17_61 : decode B17 61 = .ok (.invokestatic 237, 3) := by decide +kernel
theorem d17_64 : decode B17 64 = .ok (.aload 4, 2) := by decide +kernel
theorem d17_66 : decode B17 66 = .ok (.astore_n 2, 1) := by decide +kernel
theorem d17_67 : decode B17 67 = .ok (.goto 40, 3) := by decide +kernel
theorem rm_balanceAfterInsert_119 (hw : HW a0 Z) (a1 a2 a3 : Addr) (i1 : Int32) (a4 a5 : Addr) (a6 a7 : Addr) (a8 a9 : Addr) (i2 : Int32) (a10 a11 : Addr) (i3 : Int32) (a12 a13 : Addr) (i4 : Int32) (h0 : Heap) (n0 : Nat) (Z0 : n0 ≤ h0.size) (O_a1 : R_MP Z h0 a1 .null (.ref a3) (.int 4) (.int i1)) (O_a2 : R_ND Z h0 a2 (.ref a4) (.ref a5) .null .null (.ref a6) (.int (-2147483648))) (O_a3 : R_ND Z h0 a3 (.ref a7) (.ref a8) (.ref a6) (.ref a9) .null (.int 2)) (O_a6 : R_ND Z h0 a6 (.ref a10) (.ref a11) (.ref a2) .null (.ref a3) (.int (-2147483647))) (O_a9 : R_ND Z h0 a9 (.ref a12) (.ref a13) .null .null (.ref a3) (.int (-2147483648))) (ne_a1_a3 : a1 ≠ a3) (ne_a1_a6 : a1 ≠ a6) (ne_a1_a9 : a1 ≠ a9) (ne_a3_a6 : a3 ≠ a6) (ne_a3_a9 : a3 ≠ a9) (ne_a6_a9 : a6 ≠ a9) (g_a3 : n0 ≤ a3) (g_a6 : n0 ≤ a6) (g_a9 : n0 ≤ a9) (hk0 : i2 < i3) (hk1 : i2 < i4) :
    Ctr l Y18 B17 6 none [] (rmk 1 0 0 13) Z #[(.ref a1), (.ref a2)] h0 (fun v h L => v = none ∧ Fr n0 L ∧ Keep h0 h [a3, a6, a9] ∧ R_ND Z h a3 (.ref a7) (.ref a8) (.ref a6) (.ref a9) .null (.int 2) ∧ R_ND Z h a6 (.ref a10) (.ref a11) (.ref a2) .null (.ref a3) (.int 1) ∧ R_ND Z h a9 (.ref a12) (.ref a13) .null .null (.ref a3) (.int 0)) := by
  refine own_enter pn_2 (fun p e s m below meth c s₁ hx hby hml hown hnm hret hlk hZ X0 e0 => ?_)
  have D {q : Nat} {r} (z : decode B17 q = r) : decode c.code q = r := hb hby z
  have N0 := Fr.nil n0
  have K0 := Keep.refl h0 [a3, a6, a9]
  rw [ef_17_RR m _ _]
  refine g_aloadN X0 hx (D d17_0) rfl rfl ?_
  refine g_astoreN X0 hx #[vr a1, vr a2, vr a2, vu, vu, vu] (D d17_1) rfl rfl ?_
  refine g_aloadN X0 hx (D d17_2) rfl rfl ?_
  refine g_getF X0 hx hZ hown (Wd117 hw) e0 O_a2.2.2.2.2.2.1 (D d17_3) (fun T1 X1 e1 => ?_)
  refine g_S X1 hx hZ hown (lk15 hw) (rm_isRed_49 hw a6 a10 a11 a2 a3 h0 n0 Z0 O_a6) e1 (D d17_6) hml.symm rfl rfl (Nat.le_refl _) (by decide) (fun v2 T2 L2 X2 q2 => ?_)
  obtain ⟨rfl, M2, e2⟩ := q2
  have N2 := Fr.app N0 M2
  refine g_ifNo X2 hx (D d17_9) ((if0 _ _).trans (feq ((by decide) : ¬ ((1 : Int32) = (0 : Int32)))).1) ?_
  refine g_aloadN X2 hx (D d17_12) rfl rfl ?_
  refine g_getF X2 hx hZ hown (Wd117 hw) e2 O_a2.2.2.2.2.2.1 (D d17_13) (fun T3 X3 e3 => ?_)
  refine g_astoreN X3 hx #[vr a1, vr a2, vr a2, vr a6, vu, vu] (D d17_16) rfl rfl ?_
  refine g_aloadN X3 hx (D d17_17) rfl rfl ?_
  refine g_getF X3 hx hZ hown (Wd117 hw) e3 O_a6.2.2.2.2.2.1 (D d17_18) (fun T4 X4 e4 => ?_)
  refine g_astore X4 hx #[vr a1, vr a2, vr a2, vr a6, vr a3, vu] (D d17_21) rfl rfl ?_
  refine g_aloadN X4 hx (D d17_23) rfl rfl ?_
  refine g_aload X4 hx (D d17_24) rfl rfl ?_
  refine g_getF X4 hx hZ hown (Wd101 hw) e4 O_a3.2.2.2.1 (D d17_26) (fun T5 X5 e5 => ?_)
  have c29_0 : a6 = a6 := rfl
  refine g_acmp X5 hx 32 true rfl rfl (D d17_29) (decide_eq_true (congrArg Value.ref c29_0)) (by decide) (by decide) ?_
  refine g_aload X5 hx (D d17_32) rfl rfl ?_
  refine g_getF X5 hx hZ hown (Wd103 hw) e5 O_a3.2.2.2.2.1 (D d17_34) (fun T6 X6 e6 => ?_)
  refine g_astore X6 hx #[vr a1, vr a2, vr a2, vr a6, vr a3, vr a9] (D d17_37) rfl rfl ?_
  refine g_aload X6 hx (D d17_39) rfl rfl ?_
  refine g_S X6 hx hZ hown (lk15 hw) (rm_isRed_120 hw a9 a12 a13 a3 h0 n0 Z0 O_a9) e6 (D d17_41) hml.symm rfl rfl (Nat.le_refl _) (by decide) (fun v7 T7 L7 X7 q7 => ?_)
  obtain ⟨rfl, M7, e7⟩ := q7
  have N7 := Fr.app N2 M7
  refine g_ifNo X7 hx (D d17_44) ((if0 _ _).trans (feq ((by decide) : ¬ ((1 : Int32) = (0 : Int32)))).1) ?_
  refine g_aloadN X7 hx (D d17_47) rfl rfl ?_
  refine g_iconst X7 hx (0 : Int32) (D d17_48) (by decide) ?_
  refine g_S X7 hx hZ hown (lk16 hw) (rm_setRed_51 hw a6 a10 a11 a2 a3 h0 n0 Z0 O_a6 g_a6) e7 (D d17_49) hml.symm rfl rfl (Nat.le_refl _) (by decide) (fun v8 T8 L8 X8 q8 => ?_)
  obtain ⟨rfl, M8, Kc8, Rk8_0⟩ := q8
  have N8 := Fr.app N7 M8
  have O_a1_8 := R_MP_keep O_a1 Kc8 (own_nin ne_a1_a6 nl)
  have O_a3_8 := R_ND_keep O_a3 Kc8 (own_nin ne_a3_a6 nl)
  have O_a9_8 := R_ND_keep O_a9 Kc8 (own_nin ne_a6_a9.symm nl)
  have K8 := Keep.trans K0 Kc8 (own_memc (mw 1 rfl) own_memn)
  have Z8 : n0 ≤ T8.heap.size := Nat.le_trans Z0 Kc8.1
  refine g_aload X8 hx (D d17_52) rfl rfl ?_
  refine g_iconst X8 hx (0 : Int32) (D d17_54) (by decide) ?_
  refine g_S X8 hx hZ hown (lk16 hw) (rm_setRed_121 hw a9 a12 a13 a3 T8.heap n0 Z8 O_a9_8 g_a9) (rfl : T8.heap = T8.heap) (D d17_55) hml.symm rfl rfl (Nat.le_refl _) (by decide) (fun v9 T9 L9 X9 q9 => ?_)
  obtain ⟨rfl, M9, Kc9, Rk9_0⟩ := q9
  have N9 := Fr.app N8 M9
  have O_a1_9 := R_MP_keep O_a1_8 Kc9 (own_nin ne_a1_a9 nl)
  have O_a3_9 := R_ND_keep O_a3_8 Kc9 (own_nin ne_a3_a9 nl)
  have O_a6_9 := R_ND_keep Rk8_0 Kc9 (own_nin ne_a6_a9 nl)
  have K9 := Keep.trans K8 Kc9 (own_memc (mw 2 rfl) own_memn)
  have Z9 : n0 ≤ T9.heap.size := Nat.le_trans Z8 Kc9.1
  refine g_aload X9 hx (D d17_58) rfl rfl ?_
  refine g_iconst X9 hx (1 : Int32) (D d17_60) (by decide) ?_
  refine g_S X9 hx hZ hown (lk16 hw) (rm_setRed_122 hw a3 a7 a8 a6 a9 T9.heap n0 Z9 O_a3_9 g_a3) (rfl : T9.heap = T9.heap) (D d17_61) hml.symm rfl rfl (Nat.le_refl _) (by decide) (fun v10 T10 L10 X10 q10 => ?_)
  obtain ⟨rfl, M10, Kc10, Rk10_0⟩ := q10
  have N10 := Fr.app N9 M10
  have O_a1_10 := R_MP_keep O_a1_9 Kc10 (own_nin ne_a1_a3 nl)
  have O_a6_10 := R_ND_keep O_a6_9 Kc10 (own_nin ne_a3_a6.symm nl)
  have O_a9_10 := R_ND_keep Rk9_0 Kc10 (own_nin ne_a3_a9.symm nl)
  have K10 := Keep.trans K9 Kc10 (own_memc (mw 0 rfl) own_memn)
  have Z10 : n0 ≤ T10.heap.size := Nat.le_trans Z9 Kc10.1
  refine g_aload X10 hx (D d17_64) rfl rfl ?_
  refine g_astoreN X10 hx #[vr a1, vr a2, vr a3, vr a6, vr a3, vr a9] (D d17_66) rfl rfl ?_
  refine g_goto X10 hx 107 (D d17_67) (by decide) (by decide) ?_
  refine g_goto X10 hx 185 (D d17_107) (by decide) (by decide) ?_
  refine g_goto X10 hx 2 (D d17_185) (by decide) (by decide) ?_
  refine g_aloadN X10 hx (D d17_2) rfl rfl ?_
  refine g_getF X10 hx hZ hown (Wd117 hw) (rfl : T10.heap = T10.heap) Rk10_0.2.2.2.2.2.1 (D d17_3) (fun T11 X11 e11 => ?_)
  refine g_S X11 hx hZ hown (lk15 hw) (rm_isRed_50 hw  T10.heap n0 Z10 ) e11 (D d17_6) hml.symm rfl rfl (Nat.le_refl _) (by decide) (fun v12 T12 L12 X12 q12 => ?_)
  obtain ⟨rfl, M12, e12⟩ := q12
  have N12 := Fr.app N10 M12
  refine g_ifYes X12 hx 188 (D d17_9) ((if0 _ _).trans (teq ((by decide) : (0 : Int32) = (0 : Int32))).1) (by decide) (by decide) ?_
  refine g_aloadN X12 hx (D d17_188) rfl rfl ?_
  refine g_getF X12 hx hZ hown (Wd25 hw) e12 O_a1_10.2.2.1 (D d17_189) (fun T13 X13 e13 => ?_)
  refine g_iconst X13 hx (0 : Int32) (D d17_192) (by decide) ?_
  refine g_S X13 hx hZ hown (lk16 hw) (rm_setRed_123 hw a3 a7 a8 a6 a9 T10.heap n0 Z10 Rk10_0 g_a3) e13 (D d17_193) hml.symm rfl rfl (Nat.le_refl _) (by decide) (fun v14 T14 L14 X14 q14 => ?_)
  obtain ⟨rfl, M14, Kc14, Rk14_0⟩ := q14
  have N14 := Fr.app N12 M14
  have O_a6_14 := R_ND_keep O_a6_10 Kc14 (own_nin ne_a3_a6.symm nl)
  have O_a9_14 := R_ND_keep O_a9_10 Kc14 (own_nin ne_a3_a9.symm nl)
  have K14 := Keep.trans K10 Kc14 (own_memc (mw 0 rfl) own_memn)
  exact own_retV X14 hx hret hlk (D d17_196) (by decide) (by decide) (by rw [(rfl : T14.heap = T14.heap)]; exact ⟨rfl, N14, K14, Rk14_0, O_a6_14, O_a9_14⟩)
theorem rm_addIfAbsent_116 (hw : HW a0 Z) (a1 a2 : Addr) (a3 a4 : Addr) (i1 i2 : Int32) (a5 a6 : Addr) (a7 a8 : Addr) (i3 : Int32) (a9 a10 : Addr) (a11 a12 : Addr) (i4 : Int32) (h0 : Heap) (n0 : Nat) (Z0 : n0 ≤ h0.size) (O_a1 : R_MP Z h0 a1 .null (.ref a4) (.int 3) (.int i1)) (O_a2 : R_IN Z h0 a2 (.int i2)) (O_a4 : R_ND Z h0 a4 (.ref a5) (.ref a6) (.ref a7) (.ref a8) .null (.int 1)) (O_a5 : R_IN Z h0 a5 (.int i3)) (O_a7 : R_ND Z h0 a7 (.ref a9) (.ref a10) .null .null (.ref a4) (.int (-2147483648))) (O_a8 : R_ND Z h0 a8 (.ref a11) (.ref a12) .null .null (.ref a4) (.int (-2147483648))) (O_a9 : R_IN Z h0 a9 (.int i4)) (ne_a1_a4 : a1 ≠ a4) (ne_a1_a7 : a1 ≠ a7) (ne_a1_a8 : a1 ≠ a8) (ne_a2_a4 : a2 ≠ a4) (ne_a4_a7 : a4 ≠ a7) (ne_a4_a8 : a4 ≠ a8) (ne_a4_a9 : a4 ≠ a9) (ne_a7_a8 : a7 ≠ a8) (g_a1 : n0 ≤ a1) (g_a4 : n0 ≤ a4) (g_a7 : n0 ≤ a7) (g_a8 : n0 ≤ a8) (hk0 : i2 < i3) (hk1 : i2 < i4) :
    CtrH l Y19 B18 15 (some F1_) [(71, 122, 210, 0), (137, 195, 210, 0), (210, 212, 210, 0)] (rmk 4 1 6 53) Z #[(.ref a1), (.ref a2), (.ref a3)] h0 (fun v h L => ∃ f1, v = some .null ∧ Fr n0 L ∧ Keep h0 h [a1, a4, a7, a8] ∧ h0.size ≤ f1 ∧ R_MP Z h a1 .null (.ref a4) (.int 4) (.int (i1 + (1 : Int32))) ∧ R_ND Z h a4 (.ref a5) (.ref a6) (.ref a7) (.ref a8) .null (.int 2) ∧ R_ND Z h a7 (.ref a9) (.ref a10) (.ref f1) .null (.ref a4) (.int 1) ∧ R_ND Z h a8 (.ref a11) (.ref a12) .null .null (.ref a4) (.int 0) ∧ R_ND Z h f1 (.ref a2) (.ref a3) .null .null (.ref a7) (.int (-2147483648))) := by
  refine own_enterH pn_2 (fun p e s m below meth c s₁ hx hby hml hown hnm hret hlk hZ X0 e0 => ?_)
  have D {q : Nat} {r} (z : decode B18 q = r) : decode c.code q = r := hb hby z
  have N0 := Fr.nil n0
  have K0 := Keep.refl h0 [a1, a4, a7, a8]
  rw [ef_33_RRR m _ _ _]
  refine g_aloadN X0 hx (D d33_0) rfl rfl ?_
  refine g_getF X0 hx hZ hown (Wd25 hw) e0 O_a1.2.2.1 (D d33_1) (fun T1 X1 e1 => ?_)
  refine g_nonnullYes X1 hx 50 (D d33_4) (by decide) (by decide) ?_
  refine g_null X1 hx (D d33_50) ?_
  refine g_astoreN X1 hx #[vr a1, vr a2, vr a3, vn, vu, vu, vu, vu, vu, vu, vu, vu, vu, vu, vu] (D d33_51) rfl rfl ?_
  refine g_iconst X1 hx (0 : Int32) (D d33_52) (by decide) ?_
  refine g_istore X1 hx #[vr a1, vr a2, vr a3, vn, vi 0, vu, vu, vu, vu, vu, vu, vu, vu, vu, vu] (D d33_53) rfl ?_
  refine g_aloadN X1 hx (D d33_55) rfl rfl ?_
  refine g_getF X1 hx hZ hown (Wd25 hw) e1 O_a1.2.2.1 (D d33_56) (fun T2 X2 e2 => ?_)
  refine g_astore X2 hx #[vr a1, vr a2, vr a3, vn, vi 0, vr a4, vu, vu, vu, vu, vu, vu, vu, vu, vu] (D d33_59) rfl rfl ?_
  refine g_aload X2 hx (D d33_61) rfl rfl ?_
  refine g_getF X2 hx hZ hown (Wd100 hw) e2 O_a4.2.1 (D d33_63) (fun T3 X3 e3 => ?_)
  refine g_astore X3 hx #[vr a1, vr a2, vr a3, vn, vi 0, vr a4, vr a5, vu, vu, vu, vu, vu, vu, vu, vu] (D d33_66) rfl rfl ?_
  refine g_null X3 hx (D d33_68) ?_
  refine g_astore X3 hx #[vr a1, vr a2, vr a3, vn, vi 0, vr a4, vr a5, vn, vu, vu, vu, vu, vu, vu, vu] (D d33_69) rfl rfl ?_
  refine g_aload X3 hx (D d33_71) rfl rfl ?_
  refine g_nullNo X3 hx (D d33_73) ?_
  refine g_aload X3 hx (D d33_76) rfl rfl ?_
  refine g_getF X3 hx hZ hown (Wd101 hw) e3 O_a4.2.2.2.1 (D d33_78) (fun T4 X4 e4 => ?_)
  refine g_astore X4 hx #[vr a1, vr a2, vr a3, vn, vi 0, vr a4, vr a5, vn, vr a7, vu, vu, vu, vu, vu, vu] (D d33_81) rfl rfl ?_
  refine g_aload X4 hx (D d33_83) rfl rfl ?_
  refine g_getF X4 hx hZ hown (Wd103 hw) e4 O_a4.2.2.2.2.1 (D d33_85) (fun T5 X5 e5 => ?_)
  refine g_astore X5 hx #[vr a1, vr a2, vr a3, vn, vi 0, vr a4, vr a5, vn, vr a7, vr a8, vu, vu, vu, vu, vu] (D d33_88) rfl rfl ?_
  refine g_aload X5 hx (D d33_90) rfl rfl ?_
  refine g_S X5 hx hZ hown (lk6 hw) (rm_keyOf_44 hw a7 a9 a10 a4 h0 n0 Z0 O_a7) e5 (D d33_92) hml.symm rfl rfl (Nat.le_refl _) (by decide) (fun v6 T6 L6 X6 q6 => ?_)
  obtain ⟨rfl, M6, e6⟩ := q6
  have N6 := Fr.app N0 M6
  refine g_astore X6 hx #[vr a1, vr a2, vr a3, vn, vi 0, vr a4, vr a5, vn, vr a7, vr a8, vr a9, vu, vu, vu, vu] (D d33_95) rfl rfl ?_
  refine g_aload X6 hx (D d33_97) rfl rfl ?_
  refine g_S X6 hx hZ hown (lk6 hw) (rm_keyOf_44 hw a8 a11 a12 a4 h0 n0 Z0 O_a8) e6 (D d33_99) hml.symm rfl rfl (Nat.le_refl _) (by decide) (fun v7 T7 L7 X7 q7 => ?_)
  obtain ⟨rfl, M7, e7⟩ := q7
  have N7 := Fr.app N6 M7
  refine g_astore X7 hx #[vr a1, vr a2, vr a3, vn, vi 0, vr a4, vr a5, vn, vr a7, vr a8, vr a9, vr a11, vu, vu, vu] (D d33_102) rfl rfl ?_
  refine g_aloadN X7 hx (D d33_104) rfl rfl ?_
  refine g_aloadN X7 hx (D d33_105) rfl rfl ?_
  refine g_aload X7 hx (D d33_106) rfl rfl ?_
  refine g_V X7 hx hZ hown (lk10 hw) (rm_compare_117 hw a1 a2 a5 a4 i1 i2 i3 h0 n0 Z0 O_a1 O_a2 O_a5 hk0) e7 O_a1.1 (D d33_108) hml.symm rfl rfl (Nat.le_refl _) (by decide) (fun v8 T8 L8 X8 q8 => ?_)
  obtain ⟨rfl, M8, e8⟩ := q8
  have N8 := Fr.app N7 M8
  refine g_istore X8 hx #[vr a1, vr a2, vr a3, vn, vi 0, vr a4, vr a5, vn, vr a7, vr a8, vr a9, vr a11, vi (-1), vu, vu] (D d33_111) rfl ?_
  refine g_iload X8 hx (D d33_113) rfl ?_
  refine g_ifYes X8 hx 137 (D d33_115) ((if0 _ _).trans (feq ((by decide) : ¬ ((-1 : Int32) = (0 : Int32)))).2) (by decide) (by decide) ?_
  refine g_aload X8 hx (D d33_137) rfl rfl ?_
  refine g_astoreN X8 hx #[vr a1, vr a2, vr a3, vr a4, vi 0, vr a4, vr a5, vn, vr a7, vr a8, vr a9, vr a11, vi (-1), vu, vu] (D d33_139) rfl rfl ?_
  refine g_iload X8 hx (D d33_140) rfl ?_
  refine g_istore X8 hx #[vr a1, vr a2, vr a3, vr a4, vi (-1), vr a4, vr a5, vn, vr a7, vr a8, vr a9, vr a11, vi (-1), vu, vu] (D d33_142) rfl ?_
  refine g_iload X8 hx (D d33_144) rfl ?_
  refine g_ifNo X8 hx (D d33_146) ((if0 _ _).trans (tlt ((by decide) : (-1 : Int32) < (0 : Int32))).2.1) ?_
  refine g_aload X8 hx (D d33_149) rfl rfl ?_
  refine g_iconst X8 hx (1 : Int32) (D d33_151) (by decide) ?_
  refine g_S X8 hx hZ hown (lk11 hw) (rm_addToLeftCount_118 hw a4 a5 a6 a7 a8 h0 n0 Z0 O_a4 g_a4) e8 (D d33_152) hml.symm rfl rfl (Nat.le_refl _) (by decide) (fun v9 T9 L9 X9 q9 => ?_)
  obtain ⟨rfl, M9, Kc9, Rk9_0⟩ := q9
  have N9 := Fr.app N8 M9
  have O_a1_9 := R_MP_keep O_a1 Kc9 (own_nin ne_a1_a4 nl)
  have O_a2_9 := R_IN_keep O_a2 Kc9 (own_nin ne_a2_a4 nl)
  have O_a7_9 := R_ND_keep O_a7 Kc9 (own_nin ne_a4_a7.symm nl)
  have O_a8_9 := R_ND_keep O_a8 Kc9 (own_nin ne_a4_a8.symm nl)
  have O_a9_9 := R_IN_keep O_a9 Kc9 (own_nin ne_a4_a9.symm nl)
  have K9 := Keep.trans K0 Kc9 (own_memc (mw 1 rfl) own_memn)
  have Z9 : n0 ≤ T9.heap.size := Nat.le_trans Z0 Kc9.1
  refine g_iload X9 hx (D d33_155) rfl ?_
  refine g_ifNo X9 hx (D d33_157) ((if0 _ _).trans (tlt ((by decide) : (-1 : Int32) < (0 : Int32))).2.1) ?_
  refine g_aload X9 hx (D d33_160) rfl rfl ?_
  refine g_goto X9 hx 167 (D d33_162) (by decide) (by decide) ?_
  refine g_astore X9 hx #[vr a1, vr a2, vr a3, vr a4, vi (-1), vr a7, vr a5, vn, vr a7, vr a8, vr a9, vr a11, vi (-1), vu, vu] (D d33_167) rfl rfl ?_
  refine g_iload X9 hx (D d33_169) rfl ?_
  refine g_ifNo X9 hx (D d33_171) ((if0 _ _).trans (tlt ((by decide) : (-1 : Int32) < (0 : Int32))).2.1) ?_
  refine g_aload X9 hx (D d33_174) rfl rfl ?_
  refine g_goto X9 hx 181 (D d33_176) (by decide) (by decide) ?_
  refine g_astore X9 hx #[vr a1, vr a2, vr a3, vr a4, vi (-1), vr a7, vr a9, vn, vr a7, vr a8, vr a9, vr a11, vi (-1), vu, vu] (D d33_181) rfl rfl ?_
  refine g_goto X9 hx 71 (D d33_183) (by decide) (by decide) ?_
  refine g_aload X9 hx (D d33_71) rfl rfl ?_
  refine g_nullNo X9 hx (D d33_73) ?_
  refine g_aload X9 hx (D d33_76) rfl rfl ?_
  refine g_getF X9 hx hZ hown (Wd101 hw) (rfl : T9.heap = T9.heap) O_a7_9.2.2.2.1 (D d33_78) (fun T10 X10 e10 => ?_)
  refine g_astore X10 hx #[vr a1, vr a2, vr a3, vr a4, vi (-1), vr a7, vr a9, vn, vn, vr a8, vr a9, vr a11, vi (-1), vu, vu] (D d33_81) rfl rfl ?_
  refine g_aload X10 hx (D d33_83) rfl rfl ?_
  refine g_getF X10 hx hZ hown (Wd103 hw) e10 O_a7_9.2.2.2.2.1 (D d33_85) (fun T11 X11 e11 => ?_)
  refine g_astore X11 hx #[vr a1, vr a2, vr a3, vr a4, vi (-1), vr a7, vr a9, vn, vn, vn, vr a9, vr a11, vi (-1), vu, vu] (D d33_88) rfl rfl ?_
  refine g_aload X11 hx (D d33_90) rfl rfl ?_
  refine g_S X11 hx hZ hown (lk6 hw) (rm_keyOf_12 hw  T9.heap n0 Z9 ) e11 (D d33_92) hml.symm rfl rfl (Nat.le_refl _) (by decide) (fun v12 T12 L12 X12 q12 => ?_)
  obtain ⟨rfl, M12, e12⟩ := q12
  have N12 := Fr.app N9 M12
  refine g_astore X12 hx #[vr a1, vr a2, vr a3, vr a4, vi (-1), vr a7, vr a9, vn, vn, vn, vn, vr a11, vi (-1), vu, vu] (D d33_95) rfl rfl ?_
  refine g_aload X12 hx (D d33_97) rfl rfl ?_
  refine g_S X12 hx hZ hown (lk6 hw) (rm_keyOf_12 hw  T9.heap n0 Z9 ) e12 (D d33_99) hml.symm rfl rfl (Nat.le_refl _) (by decide) (fun v13 T13 L13 X13 q13 => ?_)
  obtain ⟨rfl, M13, e13⟩ := q13
  have N13 := Fr.app N12 M13
  refine g_astore X13 hx #[vr a1, vr a2, vr a3, vr a4, vi (-1), vr a7, vr a9, vn, vn, vn, vn, vn, vi (-1), vu, vu] (D d33_102) rfl rfl ?_
  refine g_aloadN X13 hx (D d33_104) rfl rfl ?_
  refine g_aloadN X13 hx (D d33_105) rfl rfl ?_
  refine g_aload X13 hx (D d33_106) rfl rfl ?_
  refine g_V X13 hx hZ hown (lk10 hw) (rm_compare_117 hw a1 a2 a9 a4 i1 i2 i4 T9.heap n0 Z9 O_a1_9 O_a2_9 O_a9_9 hk1) e13 O_a1_9.1 (D d33_108) hml.symm rfl rfl (Nat.le_refl _) (by decide) (fun v14 T14 L14 X14 q14 => ?_)
  obtain ⟨rfl, M14, e14⟩ := q14
  have N14 := Fr.app N13 M14
  refine g_istore X14 hx #[vr a1, vr a2, vr a3, vr a4, vi (-1), vr a7, vr a9, vn, vn, vn, vn, vn, vi (-1), vu, vu] (D d33_111) rfl ?_
  refine g_iload X14 hx (D d33_113) rfl ?_
  refine g_ifYes X14 hx 137 (D d33_115) ((if0 _ _).trans (feq ((by decide) : ¬ ((-1 : Int32) = (0 : Int32)))).2) (by decide) (by decide) ?_
  refine g_aload X14 hx (D d33_137) rfl rfl ?_
  refine g_astoreN X14 hx #[vr a1, vr a2, vr a3, vr a7, vi (-1), vr a7, vr a9, vn, vn, vn, vn, vn, vi (-1), vu, vu] (D d33_139) rfl rfl ?_
  refine g_iload X14 hx (D d33_140) rfl ?_
  refine g_istore X14 hx #[vr a1, vr a2, vr a3, vr a7, vi (-1), vr a7, vr a9, vn, vn, vn, vn, vn, vi (-1), vu, vu] (D d33_142) rfl ?_
  refine g_iload X14 hx (D d33_144) rfl ?_
  refine g_ifNo X14 hx (D d33_146) ((if0 _ _).trans (tlt ((by decide) : (-1 : Int32) < (0 : Int32))).2.1) ?_
  refine g_aload X14 hx (D d33_149) rfl rfl ?_
  refine g_iconst X14 hx (1 : Int32) (D d33_151) (by decide) ?_
  refine g_S X14 hx hZ hown (lk11 hw) (rm_addToLeftCount_47 hw a7 a9 a10 a4 T9.heap n0 Z9 O_a7_9 g_a7) e14 (D d33_152) hml.symm rfl rfl (Nat.le_refl _) (by decide) (fun v15 T15 L15 X15 q15 => ?_)
  obtain ⟨rfl, M15, Kc15, Rk15_0⟩ := q15
  have N15 := Fr.app N14 M15
  have O_a1_15 := R_MP_keep O_a1_9 Kc15 (own_nin ne_a1_a7 nl)
  have O_a8_15 := R_ND_keep O_a8_9 Kc15 (own_nin ne_a7_a8.symm nl)
  have O_a4_15 := R_ND_keep Rk9_0 Kc15 (own_nin ne_a4_a7 nl)
  have K15 := Keep.trans K9 Kc15 (own_memc (mw 2 rfl) own_memn)
  have Z15 : n0 ≤ T15.heap.size := Nat.le_trans Z9 Kc15.1
  refine g_iload X15 hx (D d33_155) rfl ?_
  refine g_ifNo X15 hx (D d33_157) ((if0 _ _).trans (tlt ((by decide) : (-1 : Int32) < (0 : Int32))).2.1) ?_
  refine g_aload X15 hx (D d33_160) rfl rfl ?_
  refine g_goto X15 hx 167 (D d33_162) (by decide) (by decide) ?_
  refine g_astore X15 hx #[vr a1, vr a2, vr a3, vr a7, vi (-1), vn, vr a9, vn, vn, vn, vn, vn, vi (-1), vu, vu] (D d33_167) rfl rfl ?_
  refine g_iload X15 hx (D d33_169) rfl ?_
  refine g_ifNo X15 hx (D d33_171) ((if0 _ _).trans (tlt ((by decide) : (-1 : Int32) < (0 : Int32))).2.1) ?_
  refine g_aload X15 hx (D d33_174) rfl rfl ?_
  refine g_goto X15 hx 181 (D d33_176) (by decide) (by decide) ?_
  refine g_astore X15 hx #[vr a1, vr a2, vr a3, vr a7, vi (-1), vn, vn, vn, vn, vn, vn, vn, vi (-1), vu, vu] (D d33_181) rfl rfl ?_
  refine g_goto X15 hx 71 (D d33_183) (by decide) (by decide) ?_
  refine g_aload X15 hx (D d33_71) rfl rfl ?_
  refine g_nullYes X15 hx 186 (D d33_73) (by decide) (by decide) ?_
  refine g_aloadN X15 hx (D d33_186) rfl rfl ?_
  refine g_aloadN X15 hx (D d33_187) rfl rfl ?_
  refine g_aloadN X15 hx (D d33_188) rfl rfl ?_
  refine g_aloadN X15 hx (D d33_189) rfl rfl ?_
  refine g_V X15 hx hZ hown (lk13 hw) (rm_newNode_18 hw a1 a2 a3 a7 T15.heap n0 Z15 ) (rfl : T15.heap = T15.heap) O_a1_15.1 (D d33_190) hml.symm rfl rfl (Nat.le_refl _) (by decide) (fun v16 T16 L16 X16 q16 => ?_)
  obtain ⟨b16_0, rfl, M16, Kc16, zb16_0, Rk16_0⟩ := q16
  have N16 := Fr.app N15 M16
  have ne_a1_b16_0 : a1 ≠ b16_0 := Nat.ne_of_lt (Nat.lt_of_lt_of_le O_a1_15.1.lt zb16_0)
  have ne_a8_b16_0 : a8 ≠ b16_0 := Nat.ne_of_lt (Nat.lt_of_lt_of_le O_a8_15.1.lt zb16_0)
  have ne_a4_b16_0 : a4 ≠ b16_0 := Nat.ne_of_lt (Nat.lt_of_lt_of_le O_a4_15.1.lt zb16_0)
  have ne_a7_b16_0 : a7 ≠ b16_0 := Nat.ne_of_lt (Nat.lt_of_lt_of_le Rk15_0.1.lt zb16_0)
  have sz_b16_0 : h0.size ≤ b16_0 := Nat.le_trans K15.1 zb16_0
  have O_a1_16 := R_MP_keep O_a1_15 Kc16 nl
  have O_a8_16 := R_ND_keep O_a8_15 Kc16 nl
  have O_a4_16 := R_ND_keep O_a4_15 Kc16 nl
  have O_a7_16 := R_ND_keep Rk15_0 Kc16 nl
  have K16 := Keep.trans K15 Kc16 own_memn
  have Z16 : n0 ≤ T16.heap.size := Nat.le_trans Z15 Kc16.1
  refine g_astore X16 hx #[vr a1, vr a2, vr a3, vr a7, vi (-1), vn, vn, vr b16_0, vn, vn, vn, vn, vi (-1), vu, vu] (D d33_193) rfl rfl ?_
  refine g_aload X16 hx (D d33_195) rfl rfl ?_
  refine g_nonnullYes X16 hx 227 (D d33_197) (by decide) (by decide) ?_
  refine g_iload X16 hx (D d33_227) rfl ?_
  refine g_ifNo X16 hx (D d33_229) ((if0 _ _).trans (tlt ((by decide) : (-1 : Int32) < (0 : Int32))).2.1) ?_
  refine g_aloadN X16 hx (D d33_232) rfl rfl ?_
  refine g_aload X16 hx (D d33_233) rfl rfl ?_
  refine g_putF X16 hx hZ hown (Wd101 hw) (rfl : T16.heap = T16.heap) O_a7_16.2.2.2.1 O_a7_16.1 (Or.inl (Wd102 hw)) (Wd76 hw) fd_2 rfl rfl (D d33_235) (fun T17 h17 X17 e17 W17 => ?_)
  have N17 := Fr.snoc X17 N16 g_a7
  have O_a1_17 := R_MP_other W17 O_a1_16 ne_a1_a7
  have O_a8_17 := R_ND_other W17 O_a8_16 ne_a7_a8.symm
  have O_a4_17 := R_ND_other W17 O_a4_16 ne_a4_a7
  have O_a7_17 := R_ND_set_left hw W17 O_a7_16
  have O_b16_0_17 := R_ND_other W17 Rk16_0 ne_a7_b16_0.symm
  have Z17 : n0 ≤ h17.size := Nat.le_trans Z16 (Nat.le_of_eq W17.size.symm)
  have K17 := Keep.wr K16 W17 (mw 2 rfl)
  refine g_goto X17 hx 247 (D d33_238) (by decide) (by decide) ?_
  refine g_aloadN X17 hx (D d33_247) rfl rfl ?_
  refine g_dup X17 hx (D d33_248) rfl ?_
  refine g_getF X17 hx hZ hown (Wd96 hw) e17 O_a1_17.2.2.2.1 (D d33_249) (fun T18 X18 e18 => ?_)
  refine g_iconst X18 hx (1 : Int32) (D d33_252) (by decide) ?_
  refine g_iadd X18 hx (D d33_253) ?_
  show Go p e below (T18.setTop (mkF m 254 #[vr a1, vr a2, vr a3, vr a7, vi (-1), vn, vn, vr b16_0, vn, vn, vn, vn, vi (-1), vu, vu] [(.int ((3 : Int32) + (1 : Int32))), (.ref a1)])) _
  rw [show ((3 : Int32) + (1 : Int32)) = (4 : Int32) from by decide]
  refine g_putF X18 hx hZ hown (Wd96 hw) e18 O_a1_17.2.2.2.1 O_a1_17.1 (Or.inl (Wd97 hw)) (Wd2 hw) fd_0 rfl rfl (D d33_254) (fun T19 h19 X19 e19 W19 => ?_)
  have N19 := Fr.snoc X19 N17 g_a1
  have O_a1_19 := R_MP_set_size hw W19 O_a1_17
  have O_a8_19 := R_ND_other W19 O_a8_17 ne_a1_a8.symm
  have O_a4_19 := R_ND_other W19 O_a4_17 ne_a1_a4.symm
  have O_a7_19 := R_ND_other W19 O_a7_17 ne_a1_a7.symm
  have O_b16_0_19 := R_ND_other W19 O_b16_0_17 ne_a1_b16_0.symm
  have Z19 : n0 ≤ h19.size := Nat.le_trans Z17 (Nat.le_of_eq W19.size.symm)
  have K19 := Keep.wr K17 W19 (mw 0 rfl)
  refine g_aloadN X19 hx (D d33_257) rfl rfl ?_
  refine g_aloadN X19 hx (D d33_258) rfl rfl ?_
  refine g_V X19 hx hZ hown (lk14 hw) (rm_refreshToRoot_20 hw a1 a7 h19 n0 Z19 ) e19 O_a1_19.1 (D d33_259) hml.symm rfl rfl (Nat.le_refl _) (by decide) (fun v20 T20 L20 X20 q20 => ?_)
  obtain ⟨rfl, M20, e20⟩ := q20
  have N20 := Fr.app N19 M20
  refine g_aloadN X20 hx (D d33_262) rfl rfl ?_
  refine g_aload X20 hx (D d33_263) rfl rfl ?_
  refine g_P X20 hx hZ hown (lk17 hw) (rm_balanceAfterInsert_119 hw a1 b16_0 a4 i1 a2 a3 a7 a5 a6 a8 i2 a9 a10 i3 a11 a12 i4 h19 n0 Z19 O_a1_19 O_b16_0_19 O_a4_19 O_a7_19 O_a8_19 ne_a1_a4 ne_a1_a7 ne_a1_a8 ne_a4_a7 ne_a4_a8 ne_a7_a8 g_a4 g_a7 g_a8 hk0 hk1) e20 O_a1_19.1 (D d33_265) hml.symm rfl rfl (Nat.le_refl _) (by decide) (fun v21 T21 L21 X21 q21 => ?_)
  obtain ⟨rfl, M21, Kc21, Rk21_0, Rk21_1, Rk21_2⟩ := q21
  have N21 := Fr.app N20 M21
  have O_a1_21 := R_MP_keep O_a1_19 Kc21 (own_nin ne_a1_a4 (own_nin ne_a1_a7 (own_nin ne_a1_a8 nl)))
  have O_b16_0_21 := R_ND_keep O_b16_0_19 Kc21 (own_nin ne_a4_b16_0.symm (own_nin ne_a7_b16_0.symm (own_nin ne_a8_b16_0.symm nl)))
  have K21 := Keep.trans K19 Kc21 (own_memc (mw 1 rfl) (own_memc (mw 2 rfl) (own_memc (mw 3 rfl) own_memn)))
  refine g_aloadN X21 hx (D d33_268) rfl rfl ?_
  refine g_dup X21 hx (D d33_269) rfl ?_
  refine g_getF X21 hx hZ hown (Wd98 hw) (rfl : T21.heap = T21.heap) O_a1_21.2.2.2.2 (D d33_270) (fun T22 X22 e22 => ?_)
  refine g_iconst X22 hx (1 : Int32) (D d33_273) (by decide) ?_
  refine g_iadd X22 hx (D d33_274) ?_
  refine g_putF X22 hx hZ hown (Wd98 hw) e22 O_a1_21.2.2.2.2 O_a1_21.1 (Or.inl (Wd99 hw)) (Wd2 hw) fd_0 rfl rfl (D d33_275) (fun T23 h23 X23 e23 W23 => ?_)
  have N23 := Fr.snoc X23 N21 g_a1
  have O_a1_23 := R_MP_set_modCount hw W23 O_a1_21
  have O_b16_0_23 := R_ND_other W23 O_b16_0_21 ne_a1_b16_0.symm
  have O_a4_23 := R_ND_other W23 Rk21_0 ne_a1_a4.symm
  have O_a7_23 := R_ND_other W23 Rk21_1 ne_a1_a7.symm
  have O_a8_23 := R_ND_other W23 Rk21_2 ne_a1_a8.symm
  have K23 := Keep.wr K21 W23 (mw 0 rfl)
  refine g_null X23 hx (D d33_278) ?_
  exact own_retA X23 hx hret hlk rfl rfl (D d33_279) (by decide) (by decide) (by rw [e23]; exact ⟨b16_0, rfl, N23, K23, sz_b16_0, O_a1_23, O_a4_23, O_a7_23, O_a8_23, O_b16_0_23⟩)
theorem rm_put_115 (hw : HW a0 Z) (a1 a2 : Addr) (a3 a4 : Addr) (i1 i2 : Int32) (a5 a6 : Addr) (a7 a8 : Addr) (i3 : Int32) (a9 a10 : Addr) (a11 a12 : Addr) (i4 : Int32) (h0 : Heap) (n0 : Nat) (Z0 : n0 ≤ h0.size) (O_a1 : R_MP Z h0 a1 .null (.ref a4) (.int 3) (.int i1)) (O_a2 : R_IN Z h0 a2 (.int i2)) (O_a4 : R_ND Z h0 a4 (.ref a5) (.ref a6) (.ref a7) (.ref a8) .null (.int 1)) (O_a5 : R_IN Z h0 a5 (.int i3)) (O_a7 : R_ND Z h0 a7 (.ref a9) (.ref a10) .null .null (.ref a4) (.int (-2147483648))) (O_a8 : R_ND Z h0 a8 (.ref a11) (.ref a12) .null .null (.ref a4) (.int (-2147483648))) (O_a9 : R_IN Z h0 a9 (.int i4)) (ne_a1_a4 : a1 ≠ a4) (ne_a1_a7 : a1 ≠ a7) (ne_a1_a8 : a1 ≠ a8) (ne_a2_a4 : a2 ≠ a4) (ne_a4_a7 : a4 ≠ a7) (ne_a4_a8 : a4 ≠ a8) (ne_a4_a9 : a4 ≠ a9) (ne_a7_a8 : a7 ≠ a8) (g_a1 : n0 ≤ a1) (g_a4 : n0 ≤ a4) (g_a7 : n0 ≤ a7) (g_a8 : n0 ≤ a8) (hk0 : i2 < i3) (hk1 : i2 < i4) :
    Ctr l Y20 B19 4 (some F3_) [] (rmk 5 1 6 79) Z #[(.ref a1), (.ref a2), (.ref a3)] h0 (fun v h L => ∃ f1, v = some .null ∧ Fr n0 L ∧ Keep h0 h [a1, a4, a7, a8] ∧ h0.size ≤ f1 ∧ R_MP Z h a1 .null (.ref a4) (.int 4) (.int (i1 + (1 : Int32))) ∧ R_ND Z h a4 (.ref a5) (.ref a6) (.ref a7) (.ref a8) .null (.int 2) ∧ R_ND Z h a7 (.ref a9) (.ref a10) (.ref f1) .null (.ref a4) (.int 1) ∧ R_ND Z h a8 (.ref a11) (.ref a12) .null .null (.ref a4) (.int 0) ∧ R_ND Z h f1 (.ref a2) (.ref a3) .null .null (.ref a7) (.int (-2147483648))) := by
  refine own_enter pn_2 (fun p e s m below meth c s₁ hx hby hml hown hnm hret hlk hZ X0 e0 => ?_)
  have N0 := Fr.nil n0
  have K0 := Keep.refl h0 [a1, a4, a7, a8]
  rw [ef_7_RRR m _ _ _]
  refine g_aloadN X0 hx (hb hby d7_0) rfl rfl ?_
  refine g_aloadN X0 hx (hb hby d7_1) rfl rfl ?_
  refine g_aloadN X0 hx (hb hby d7_2) rfl rfl ?_
  refine g_PH X0 hx hZ hown (lk18 hw) (rm_addIfAbsent_116 hw a1 a2 a3 a4 i1 i2 a5 a6 a7 a8 i3 a9 a10 a11 a12 i4 h0 n0 Z0 O_a1 O_a2 O_a4 O_a5 O_a7 O_a8 O_a9 ne_a1_a4 ne_a1_a7 ne_a1_a8 ne_a2_a4 ne_a4_a7 ne_a4_a8 ne_a4_a9 ne_a7_a8 g_a1 g_a4 g_a7 g_a8 hk0 hk1) e0 O_a1.1 (hb hby d7_3) hml.symm rfl rfl (Nat.le_refl _) (by decide) (fun v1 T1 L1 X1 q1 => ?_)
  obtain ⟨b1_0, rfl, M1, Kc1, zb1_0, Rk1_0, Rk1_1, Rk1_2, Rk1_3, Rk1_4⟩ := q1
  have N1 := Fr.app N0 M1
  have sz_b1_0 : h0.size ≤ b1_0 := Nat.le_trans K0.1 zb1_0
  have K1 := Keep.trans K0 Kc1 (own_memc (mw 0 rfl) (own_memc (mw 1 rfl) (own_memc (mw 2 rfl) (own_memc (mw 3 rfl) own_memn))))
  refine g_astoreN X1 hx #[vr a1, vr a2, vr a3, vn] (hb hby d7_6) rfl rfl ?_
  refine g_aloadN X1 hx (hb hby d7_7) rfl rfl ?_
  refine g_nonnullNo X1 hx (hb hby d7_8) ?_
  refine g_null X1 hx (hb hby d7_11) ?_
  refine g_goto X1 hx 21 (hb hby d7_12) (by decide) (by decide) ?_
  exact own_retA X1 hx hret hlk rfl rfl (hb hby d7_21) (by decide) (by decide) (by rw [(rfl : T1.heap = T1.heap)]; exact ⟨b1_0, rfl, N1, K1, sz_b1_0, Rk1_0, Rk1_1, Rk1_2, Rk1_3, Rk1_4⟩)
theorem rm_compare_126 (hw : HW a0 Z) (a1 a2 : Addr) (a3 a4 : Addr) (i1 i2 i3 : Int32) (h0 : Heap) (n0 : Nat) (Z0 : n0 ≤ h0.size) (O_a1 : R_MP Z h0 a1 .null (.ref a4) (.int 3) (.int i1)) (O_a2 : R_IN Z h0 a2 (.int i2)) (O_a3 : R_IN Z h0 a3 (.int i3)) (hk0 : ¬ (i2 < i3)) (hk1 : i2 = i3) :
    Ctr l Y11 B10 3 (some FieldType.int) [] (rmk 3 0 0 39) Z #[(.ref a1), (.ref a2), (.ref a3)] h0 (fun v h L => v = some (.int 0) ∧ Fr n0 L ∧ h = h0) := by
  refine own_enter pn_2 (fun p e s m below meth c s₁ hx hby hml hown hnm hret hlk hZ X0 e0 => ?_)
  have N0 := Fr.nil n0
  have K0 := Keep.refl h0 []
  rw [ef_8_RRR m _ _ _]
  refine g_aloadN X0 hx (hb hby d8_0) rfl rfl ?_
  refine g_getF X0 hx hZ hown (Wd18 hw) e0 O_a1.2.1 (hb hby d8_1) (fun T1 X1 e1 => ?_)
  refine g_nonnullNo X1 hx (hb hby d8_4) ?_
  refine g_aloadN X1 hx (hb hby d8_7) rfl rfl ?_
  refine g_cast X1 hx hZ hown (Wd48 hw) e1 (Ins.of_exa O_a2.1 (Wd49 hw)) (hb hby d8_8) (fun T2 X2 e2 => ?_)
  refine g_aloadN X2 hx (hb hby d8_11) rfl rfl ?_
  refine g_F X2 hx hZ hown (lk9 hw) (mvT hZ (Wd52 hw)) (rm_compareTo_27 hw a2 a3 i2 i3 h0 n0 Z0 O_a2 O_a3 hk0 hk1) e2 O_a2.1 (hb hby d8_12) hml.symm rfl rfl (Nat.le_refl _) (by decide) (fun v3 T3 L3 X3 q3 => ?_)
  obtain ⟨rfl, M3, e3⟩ := q3
  have N3 := Fr.app N0 M3
  refine g_goto X3 hx 31 (hb hby d8_17) (by decide) (by decide) ?_
  exact own_retI X3 hx hret hlk (hb hby d8_31) (by decide) (by decide) ⟨rfl, N3, e3⟩
theorem rm_addToLeftCount_128 (hw : HW a0 Z) (a1 a2 : Addr) (a3 a4 a5 : Addr) (h0 : Heap) (n0 : Nat) (Z0 : n0 ≤ h0.size) (O_a1 : R_ND Z h0 a1 (.ref a2) (.ref a3) (.ref a4) (.ref a5) .null (.int 2)) (g_a1 : n0 ≤ a1) :
    Ctr l Y12 B11 2 none [] (rmk 0 0 0 0) Z #[(.ref a1), (.int (-1))] h0 (fun v h L => v = none ∧ Fr n0 L ∧ Keep h0 h [a1] ∧ R_ND Z h a1 (.ref a2) (.ref a3) (.ref a4) (.ref a5) .null (.int 1)) := by
  refine own_enter pn_2 (fun p e s m below meth c s₁ hx hby hml hown hnm hret hlk hZ X0 e0 => ?_)
  have N0 := Fr.nil n0
  have K0 := Keep.refl h0 [a1]
  rw [ef_22_RI m _ _]
  refine g_aloadN X0 hx (hb hby d22_0) rfl rfl ?_
  refine g_dup X0 hx (hb hby d22_1) rfl ?_
  refine g_getF X0 hx hZ hown (Wd94 hw) e0 O_a1.2.2.2.2.2.2 (hb hby d22_2) (fun T1 X1 e1 => ?_)
  refine g_iloadN X1 hx (hb hby d22_5) rfl ?_
  refine g_iadd X1 hx (hb hby d22_6) ?_
  show Go p e below (T1.setTop (mkF m 7 #[vr a1, vi (-1)] [(.int ((2 : Int32) + (-1 : Int32))), (.ref a1)])) _
  rw [show ((2 : Int32) + (-1 : Int32)) = (1 : Int32) from by decide]
  refine g_putF X1 hx hZ hown (Wd94 hw) e1 O_a1.2.2.2.2.2.2 O_a1.1 (Or.inl (Wd84 hw)) (Wd76 hw) fd_0 rfl rfl (hb hby d22_7) (fun T2 h2 X2 e2 W2 => ?_)
  have N2 := Fr.snoc X2 N0 g_a1
  have O_a1_2 := R_ND_set_redAndLeftCount hw W2 O_a1
  have K2 := Keep.wr K0 W2 (mw 0 rfl)
  exact own_retV X2 hx hret hlk (hb hby d22_10) (by decide) (by decide) (by rw [e2]; exact ⟨rfl, N2, K2, O_a1_2⟩)
theorem rm_countAbove_129 (hw : HW a0 Z) (a1 a2 : Addr) (a3 a4 a5 : Addr) (h0 : Heap) (n0 : Nat) (Z0 : n0 ≤ h0.size) (O_a1 : R_ND Z h0 a1 (.ref a2) (.ref a3) (.ref a4) (.ref a5) .null (.int 1)) :
    Ctr l Y28 B27 4 none [] (rmk 0 0 0 0) Z #[(.ref a1), (.int (-1))] h0 (fun v h L => v = none ∧ Fr n0 L ∧ h = h0) := by
  refine own_enter pn_2 (fun p e s m below meth c s₁ hx hby hml hown hnm hret hlk hZ X0 e0 => ?_)
  have N0 := Fr.nil n0
  have K0 := Keep.refl h0 []
  rw [ef_29_RI m _ _]
  refine g_aloadN X0 hx (hb hby d29_0) rfl rfl ?_
  refine g_astoreN X0 hx #[vr a1, vi (-1), vr a1, vu] (hb hby d29_1) rfl rfl ?_
  refine g_aloadN X0 hx (hb hby d29_2) rfl rfl ?_
  refine g_getF X0 hx hZ hown (Wd117 hw) e0 O_a1.2.2.2.2.2.1 (hb hby d29_3) (fun T1 X1 e1 => ?_)
  refine g_astoreN X1 hx #[vr a1, vi (-1), vr a1, vn] (hb hby d29_6) rfl rfl ?_
  refine g_aloadN X1 hx (hb hby d29_7) rfl rfl ?_
  refine g_nullYes X1 hx 34 (hb hby d29_8) (by decide) (by decide) ?_
  exact own_retV X1 hx hret hlk (hb hby d29_34) (by decide) (by decide) ⟨rfl, N0, e1⟩
theorem rm_countPlace_127 (hw : HW a0 Z) (a1 a2 : Addr) (a3 a4 a5 : Addr) (h0 : Heap) (n0 : Nat) (Z0 : n0 ≤ h0.size) (O_a1 : R_ND Z h0 a1 (.ref a2) (.ref a3) (.ref a4) (.ref a5) .null (.int 2)) (g_a1 : n0 ≤ a1) :
    Ctr l Y21 B20 3 none [] (rmk 1 0 0 15) Z #[(.ref a1), (.int (-1)), (.int (-1))] h0 (fun v h L => v = none ∧ Fr n0 L ∧ Keep h0 h [a1] ∧ R_ND Z h a1 (.ref a2) (.ref a3) (.ref a4) (.ref a5) .null (.int 1)) := by
  refine own_enter pn_2 (fun p e s m below meth c s₁ hx hby hml hown hnm hret hlk hZ X0 e0 => ?_)
  have N0 := Fr.nil n0
  have K0 := Keep.refl h0 [a1]
  rw [ef_28_RII m _ _ _]
  refine g_aloadN X0 hx (hb hby d28_0) rfl rfl ?_
  refine g_nonnullYes X0 hx 5 (hb hby d28_1) (by decide) (by decide) ?_
  refine g_iloadN X0 hx (hb hby d28_5) rfl ?_
  refine g_ifNo X0 hx (hb hby d28_6) ((if0 _ _).trans (tlt ((by decide) : (-1 : Int32) < (0 : Int32))).2.1) ?_
  refine g_aloadN X0 hx (hb hby d28_9) rfl rfl ?_
  refine g_iloadN X0 hx (hb hby d28_10) rfl ?_
  refine g_S X0 hx hZ hown (lk11 hw) (rm_addToLeftCount_128 hw a1 a2 a3 a4 a5 h0 n0 Z0 O_a1 g_a1) e0 (hb hby d28_11) hml.symm rfl rfl (Nat.le_refl _) (by decide) (fun v1 T1 L1 X1 q1 => ?_)
  obtain ⟨rfl, M1, Kc1, Rk1_0⟩ := q1
  have N1 := Fr.app N0 M1
  have K1 := Keep.trans K0 Kc1 (own_memc (mw 0 rfl) own_memn)
  have Z1 : n0 ≤ T1.heap.size := Nat.le_trans Z0 Kc1.1
  refine g_aloadN X1 hx (hb hby d28_14) rfl rfl ?_
  refine g_iloadN X1 hx (hb hby d28_15) rfl ?_
  refine g_S X1 hx hZ hown (lk27 hw) (rm_countAbove_129 hw a1 a2 a3 a4 a5 T1.heap n0 Z1 Rk1_0) (rfl : T1.heap = T1.heap) (hb hby d28_16) hml.symm rfl rfl (Nat.le_refl _) (by decide) (fun v2 T2 L2 X2 q2 => ?_)
  obtain ⟨rfl, M2, e2⟩ := q2
  have N2 := Fr.app N1 M2
  exact own_retV X2 hx hret hlk (hb hby d28_19) (by decide) (by decide) (by rw [e2]; exact ⟨rfl, N2, K1, Rk1_0⟩)
theorem rm_addIfAbsent_125 (hw : HW a0 Z) (a1 a2 : Addr) (a3 a4 : Addr) (i1 i2 : Int32) (a5 a6 : Addr) (a7 a8 : Addr) (i3 : Int32) (a9 a10 : Addr) (a11 a12 : Addr) (i4 : Int32) (h0 : Heap) (n0 : Nat) (Z0 : n0 ≤ h0.size) (O_a1 : R_MP Z h0 a1 .null (.ref a4) (.int 3) (.int i1)) (O_a2 : R_IN Z h0 a2 (.int i2)) (O_a4 : R_ND Z h0 a4 (.ref a5) (.ref a6) (.ref a7) (.ref a8) .null (.int 1)) (O_a5 : R_IN Z h0 a5 (.int i3)) (O_a7 : R_ND Z h0 a7 (.ref a9) (.ref a10) .null .null (.ref a4) (.int (-2147483648))) (O_a8 : R_ND Z h0 a8 (.ref a11) (.ref a12) .null .null (.ref a4) (.int (-2147483648))) (O_a9 : R_IN Z h0 a9 (.int i4)) (ne_a1_a4 : a1 ≠ a4) (ne_a2_a4 : a2 ≠ a4) (ne_a4_a7 : a4 ≠ a7) (ne_a4_a9 : a4 ≠ a9) (g_a4 : n0 ≤ a4) (hk0 : i2 < i3) (hk1 : ¬ (i2 < i4)) (hk2 : i2 = i4) :
    CtrH l Y19 B18 15 (some F1_) [(71, 122, 210, 0), (137, 195, 210, 0), (210, 212, 210, 0)] (rmk 4 0 0 53) Z #[(.ref a1), (.ref a2), (.ref a3)] h0 (fun v h L => v = some (.ref a7) ∧ Fr n0 L ∧ Keep h0 h [a4] ∧ R_ND Z h a4 (.ref a5) (.ref a6) (.ref a7) (.ref a8) .null (.int 1)) := by
  refine own_enterH pn_2 (fun p e s m below meth c s₁ hx hby hml hown hnm hret hlk hZ X0 e0 => ?_)
  have D {q : Nat} {r} (z : decode B18 q = r) : decode c.code q = r := hb hby z
  have N0 := Fr.nil n0
  have K0 := Keep.refl h0 [a4]
  rw [ef_33_RRR m _ _ _]
  refine g_aloadN X0 hx (D d33_0) rfl rfl ?_
  refine g_getF X0 hx hZ hown (Wd25 hw) e0 O_a1.2.2.1 (D d33_1) (fun T1 X1 e1 => ?_)
  refine g_nonnullYes X1 hx 50 (D d33_4) (by decide) (by decide) ?_
  refine g_null X1 hx (D d33_50) ?_
  refine g_astoreN X1 hx #[vr a1, vr a2, vr a3, vn, vu, vu, vu, vu, vu, vu, vu, vu, vu, vu, vu] (D d33_51) rfl rfl ?_
  refine g_iconst X1 hx (0 : Int32) (D d33_52) (by decide) ?_
  refine g_istore X1 hx #[vr a1, vr a2, vr a3, vn, vi 0, vu, vu, vu, vu, vu, vu, vu, vu, vu, vu] (D d33_53) rfl ?_
  refine g_aloadN X1 hx (D d33_55) rfl rfl ?_
  refine g_getF X1 hx hZ hown (Wd25 hw) e1 O_a1.2.2.1 (D d33_56) (fun T2 X2 e2 => ?_)
  refine g_astore X2 hx #[vr a1, vr a2, vr a3, vn, vi 0, vr a4, vu, vu, vu, vu, vu, vu, vu, vu, vu] (D d33_59) rfl rfl ?_
  refine g_aload X2 hx (D d33_61) rfl rfl ?_
  refine g_getF X2 hx hZ hown (Wd100 hw) e2 O_a4.2.1 (D d33_63) (fun T3 X3 e3 => ?_)
  refine g_astore X3 hx #[vr a1, vr a2, vr a3, vn, vi 0, vr a4, vr a5, vu, vu, vu, vu, vu, vu, vu, vu] (D d33_66) rfl rfl ?_
  refine g_null X3 hx (D d33_68) ?_
  refine g_astore X3 hx #[vr a1, vr a2, vr a3, vn, vi 0, vr a4, vr a5, vn, vu, vu, vu, vu, vu, vu, vu] (D d33_69) rfl rfl ?_
  refine g_aload X3 hx (D d33_71) rfl rfl ?_
  refine g_nullNo X3 hx (D d33_73) ?_
  refine g_aload X3 hx (D d33_76) rfl rfl ?_
  refine g_getF X3 hx hZ hown (Wd101 hw) e3 O_a4.2.2.2.1 (D d33_78) (fun T4 X4 e4 => ?_)
  refine g_astore X4 hx #[vr a1, vr a2, vr a3, vn, vi 0, vr a4, vr a5, vn, vr a7, vu, vu, vu, vu, vu, vu] (D d33_81) rfl rfl ?_
  refine g_aload X4 hx (D d33_83) rfl rfl ?_
  refine g_getF X4 hx hZ hown (Wd103 hw) e4 O_a4.2.2.2.2.1 (D d33_85) (fun T5 X5 e5 => ?_)
  refine g_astore X5 hx #[vr a1, vr a2, vr a3, vn, vi 0, vr a4, vr a5, vn, vr a7, vr a8, vu, vu, vu, vu, vu] (D d33_88) rfl rfl ?_
  refine g_aload X5 hx (D d33_90) rfl rfl ?_
  refine g_S X5 hx hZ hown (lk6 hw) (rm_keyOf_44 hw a7 a9 a10 a4 h0 n0 Z0 O_a7) e5 (D d33_92) hml.symm rfl rfl (Nat.le_refl _) (by decide) (fun v6 T6 L6 X6 q6 => ?_)
  obtain ⟨rfl, M6, e6⟩ := q6
  have N6 := Fr.app N0 M6
  refine g_astore X6 hx #[vr a1, vr a2, vr a3, vn, vi 0, vr a4, vr a5, vn, vr a7, vr a8, vr a9, vu, vu, vu, vu] (D d33_95) rfl rfl ?_
  refine g_aload X6 hx (D d33_97) rfl rfl ?_
  refine g_S X6 hx hZ hown (lk6 hw) (rm_keyOf_44 hw a8 a11 a12 a4 h0 n0 Z0 O_a8) e6 (D d33_99) hml.symm rfl rfl (Nat.le_refl _) (by decide) (fun v7 T7 L7 X7 q7 => ?_)
  obtain ⟨rfl, M7, e7⟩ := q7
  have N7 := Fr.app N6 M7
  refine g_astore X7 hx #[vr a1, vr a2, vr a3, vn, vi 0, vr a4, vr a5, vn, vr a7, vr a8, vr a9, vr a11, vu, vu, vu] (D d33_102) rfl rfl ?_
  refine g_aloadN X7 hx (D d33_104) rfl rfl ?_
  refine g_aloadN X7 hx (D d33_105) rfl rfl ?_
  refine g_aload X7 hx (D d33_106) rfl rfl ?_
  refine g_V X7 hx hZ hown (lk10 hw) (rm_compare_117 hw a1 a2 a5 a4 i1 i2 i3 h0 n0 Z0 O_a1 O_a2 O_a5 hk0) e7 O_a1.1 (D d33_108) hml.symm rfl rfl (Nat.le_refl _) (by decide) (fun v8 T8 L8 X8 q8 => ?_)
  obtain ⟨rfl, M8, e8⟩ := q8
  have N8 := Fr.app N7 M8
  refine g_istore X8 hx #[vr a1, vr a2, vr a3, vn, vi 0, vr a4, vr a5, vn, vr a7, vr a8, vr a9, vr a11, vi (-1), vu, vu] (D d33_111) rfl ?_
  refine g_iload X8 hx (D d33_113) rfl ?_
  refine g_ifYes X8 hx 137 (D d33_115) ((if0 _ _).trans (feq ((by decide) : ¬ ((-1 : Int32) = (0 : Int32)))).2) (by decide) (by decide) ?_
  refine g_aload X8 hx (D d33_137) rfl rfl ?_
  refine g_astoreN X8 hx #[vr a1, vr a2, vr a3, vr a4, vi 0, vr a4, vr a5, vn, vr a7, vr a8, vr a9, vr a11, vi (-1), vu, vu] (D d33_139) rfl rfl ?_
  refine g_iload X8 hx (D d33_140) rfl ?_
  refine g_istore X8 hx #[vr a1, vr a2, vr a3, vr a4, vi (-1), vr a4, vr a5, vn, vr a7, vr a8, vr a9, vr a11, vi (-1), vu, vu] (D d33_142) rfl ?_
  refine g_iload X8 hx (D d33_144) rfl ?_
  refine g_ifNo X8 hx (D d33_146) ((if0 _ _).trans (tlt ((by decide) : (-1 : Int32) < (0 : Int32))).2.1) ?_
  refine g_aload X8 hx (D d33_149) rfl rfl ?_
  refine g_iconst X8 hx (1 : Int32) (D d33_151) (by decide) ?_
  refine g_S X8 hx hZ hown (lk11 hw) (rm_addToLeftCount_118 hw a4 a5 a6 a7 a8 h0 n0 Z0 O_a4 g_a4) e8 (D d33_152) hml.symm rfl rfl (Nat.le_refl _) (by decide) (fun v9 T9 L9 X9 q9 => ?_)
  obtain ⟨rfl, M9, Kc9, Rk9_0⟩ := q9
  have N9 := Fr.app N8 M9
  have O_a1_9 := R_MP_keep O_a1 Kc9 (own_nin ne_a1_a4 nl)
  have O_a2_9 := R_IN_keep O_a2 Kc9 (own_nin ne_a2_a4 nl)
  have O_a7_9 := R_ND_keep O_a7 Kc9 (own_nin ne_a4_a7.symm nl)
  have O_a9_9 := R_IN_keep O_a9 Kc9 (own_nin ne_a4_a9.symm nl)
  have K9 := Keep.trans K0 Kc9 (own_memc (mw 0 rfl) own_memn)
  have Z9 : n0 ≤ T9.heap.size := Nat.le_trans Z0 Kc9.1
  refine g_iload X9 hx (D d33_155) rfl ?_
  refine g_ifNo X9 hx (D d33_157) ((if0 _ _).trans (tlt ((by decide) : (-1 : Int32) < (0 : Int32))).2.1) ?_
  refine g_aload X9 hx (D d33_160) rfl rfl ?_
  refine g_goto X9 hx 167 (D d33_162) (by decide) (by decide) ?_
  refine g_astore X9 hx #[vr a1, vr a2, vr a3, vr a4, vi (-1), vr a7, vr a5, vn, vr a7, vr a8, vr a9, vr a11, vi (-1), vu, vu] (D d33_167) rfl rfl ?_
  refine g_iload X9 hx (D d33_169) rfl ?_
  refine g_ifNo X9 hx (D d33_171) ((if0 _ _).trans (tlt ((by decide) : (-1 : Int32) < (0 : Int32))).2.1) ?_
  refine g_aload X9 hx (D d33_174) rfl rfl ?_
  refine g_goto X9 hx 181 (D d33_176) (by decide) (by decide) ?_
  refine g_astore X9 hx #[vr a1, vr a2, vr a3, vr a4, vi (-1), vr a7, vr a9, vn, vr a7, vr a8, vr a9, vr a11, vi (-1), vu, vu] (D d33_181) rfl rfl ?_
  refine g_goto X9 hx 71 (D d33_183) (by decide) (by decide) ?_
  refine g_aload X9 hx (D d33_71) rfl rfl ?_
  refine g_nullNo X9 hx (D d33_73) ?_
  refine g_aload X9 hx (D d33_76) rfl rfl ?_
  refine g_getF X9 hx hZ hown (Wd101 hw) (rfl : T9.heap = T9.heap) O_a7_9.2.2.2.1 (D d33_78) (fun T10 X10 e10 => ?_)
  refine g_astore X10 hx #[vr a1, vr a2, vr a3, vr a4, vi (-1), vr a7, vr a9, vn, vn, vr a8, vr a9, vr a11, vi (-1), vu, vu] (D d33_81) rfl rfl ?_
  refine g_aload X10 hx (D d33_83) rfl rfl ?_
  refine g_getF X10 hx hZ hown (Wd103 hw) e10 O_a7_9.2.2.2.2.1 (D d33_85) (fun T11 X11 e11 => ?_)
  refine g_astore X11 hx #[vr a1, vr a2, vr a3, vr a4, vi (-1), vr a7, vr a9, vn, vn, vn, vr a9, vr a11, vi (-1), vu, vu] (D d33_88) rfl rfl ?_
  refine g_aload X11 hx (D d33_90) rfl rfl ?_
  refine g_S X11 hx hZ hown (lk6 hw) (rm_keyOf_12 hw  T9.heap n0 Z9 ) e11 (D d33_92) hml.symm rfl rfl (Nat.le_refl _) (by decide) (fun v12 T12 L12 X12 q12 => ?_)
  obtain ⟨rfl, M12, e12⟩ := q12
  have N12 := Fr.app N9 M12
  refine g_astore X12 hx #[vr a1, vr a2, vr a3, vr a4, vi (-1), vr a7, vr a9, vn, vn, vn, vn, vr a11, vi (-1), vu, vu] (D d33_95) rfl rfl ?_
  refine g_aload X12 hx (D d33_97) rfl rfl ?_
  refine g_S X12 hx hZ hown (lk6 hw) (rm_keyOf_12 hw  T9.heap n0 Z9 ) e12 (D d33_99) hml.symm rfl rfl (Nat.le_refl _) (by decide) (fun v13 T13 L13 X13 q13 => ?_)
  obtain ⟨rfl, M13, e13⟩ := q13
  have N13 := Fr.app N12 M13
  refine g_astore X13 hx #[vr a1, vr a2, vr a3, vr a4, vi (-1), vr a7, vr a9, vn, vn, vn, vn, vn, vi (-1), vu, vu] (D d33_102) rfl rfl ?_
  refine g_aloadN X13 hx (D d33_104) rfl rfl ?_
  refine g_aloadN X13 hx (D d33_105) rfl rfl ?_
  refine g_aload X13 hx (D d33_106) rfl rfl ?_
  refine g_V X13 hx hZ hown (lk10 hw) (rm_compare_126 hw a1 a2 a9 a4 i1 i2 i4 T9.heap n0 Z9 O_a1_9 O_a2_9 O_a9_9 hk1 hk2) e13 O_a1_9.1 (D d33_108) hml.symm rfl rfl (Nat.le_refl _) (by decide) (fun v14 T14 L14 X14 q14 => ?_)
  obtain ⟨rfl, M14, e14⟩ := q14
  have N14 := Fr.app N13 M14
  refine g_istore X14 hx #[vr a1, vr a2, vr a3, vr a4, vi (-1), vr a7, vr a9, vn, vn, vn, vn, vn, vi 0, vu, vu] (D d33_111) rfl ?_
  refine g_iload X14 hx (D d33_113) rfl ?_
  refine g_ifNo X14 hx (D d33_115) ((if0 _ _).trans (teq ((by decide) : (0 : Int32) = (0 : Int32))).2) ?_
  refine g_aload X14 hx (D d33_118) rfl rfl ?_
  refine g_astore X14 hx #[vr a1, vr a2, vr a3, vr a4, vi (-1), vr a7, vr a9, vn, vn, vn, vn, vn, vi 0, vr a7, vu] (D d33_120) rfl rfl ?_
  refine g_aload X14 hx (D d33_122) rfl rfl ?_
  refine g_nonnullNo X14 hx (D d33_124) ?_
  refine g_aloadN X14 hx (D d33_127) rfl rfl ?_
  refine g_iload X14 hx (D d33_128) rfl ?_
  refine g_iconst X14 hx (-1 : Int32) (D d33_130) (by decide) ?_
  refine g_S X14 hx hZ hown (lk20 hw) (rm_countPlace_127 hw a4 a5 a6 a7 a8 T9.heap n0 Z9 Rk9_0 g_a4) e14 (D d33_131) hml.symm rfl rfl (Nat.le_refl _) (by decide) (fun v15 T15 L15 X15 q15 => ?_)
  obtain ⟨rfl, M15, Kc15, Rk15_0⟩ := q15
  have N15 := Fr.app N14 M15
  have K15 := Keep.trans K9 Kc15 (own_memc (mw 0 rfl) own_memn)
  refine g_aload X15 hx (D d33_134) rfl rfl ?_
  exact own_retA X15 hx hret hlk rfl rfl (D d33_136) (by decide) (by decide) (by rw [(rfl : T15.heap = T15.heap)]; exact ⟨rfl, N15, K15, Rk15_0⟩)
theorem rm_put_124 (hw : HW a0 Z) (a1 a2 : Addr) (a3 a4 : Addr) (i1 i2 : Int32) (a5 a6 : Addr) (a7 a8 : Addr) (i3 : Int32) (a9 a10 : Addr) (a11 a12 : Addr) (i4 : Int32) (h0 : Heap) (n0 : Nat) (Z0 : n0 ≤ h0.size) (O_a1 : R_MP Z h0 a1 .null (.ref a4) (.int 3) (.int i1)) (O_a2 : R_IN Z h0 a2 (.int i2)) (O_a4 : R_ND Z h0 a4 (.ref a5) (.ref a6) (.ref a7) (.ref a8) .null (.int 1)) (O_a5 : R_IN Z h0 a5 (.int i3)) (O_a7 : R_ND Z h0 a7 (.ref a9) (.ref a10) .null .null (.ref a4) (.int (-2147483648))) (O_a8 : R_ND Z h0 a8 (.ref a11) (.ref a12) .null .null (.ref a4) (.int (-2147483648))) (O_a9 : R_IN Z h0 a9 (.int i4)) (ne_a1_a4 : a1 ≠ a4) (ne_a2_a4 : a2 ≠ a4) (ne_a4_a7 : a4 ≠ a7) (ne_a4_a9 : a4 ≠ a9) (g_a4 : n0 ≤ a4) (g_a7 : n0 ≤ a7) (hk0 : i2 < i3) (hk1 : ¬ (i2 < i4)) (hk2 : i2 = i4) :
    Ctr l Y20 B19 4 (some F3_) [] (rmk 5 0 0 79) Z #[(.ref a1), (.ref a2), (.ref a3)] h0 (fun v h L => v = some (.ref a10) ∧ Fr n0 L ∧ Keep h0 h [a4, a7] ∧ R_ND Z h a4 (.ref a5) (.ref a6) (.ref a7) (.ref a8) .null (.int 1) ∧ R_ND Z h a7 (.ref a9) (.ref a3) .null .null (.ref a4) (.int (-2147483648))) := by
  refine own_enter pn_2 (fun p e s m below meth c s₁ hx hby hml hown hnm hret hlk hZ X0 e0 => ?_)
  have N0 := Fr.nil n0
  have K0 := Keep.refl h0 [a4, a7]
  rw [ef_7_RRR m _ _ _]
  refine g_aloadN X0 hx (hb hby d7_0) rfl rfl ?_
  refine g_aloadN X0 hx (hb hby d7_1) rfl rfl ?_
  refine g_aloadN X0 hx (hb hby d7_2) rfl rfl ?_
  refine g_PH X0 hx hZ hown (lk18 hw) (rm_addIfAbsent_125 hw a1 a2 a3 a4 i1 i2 a5 a6 a7 a8 i3 a9 a10 a11 a12 i4 h0 n0 Z0 O_a1 O_a2 O_a4 O_a5 O_a7 O_a8 O_a9 ne_a1_a4 ne_a2_a4 ne_a4_a7 ne_a4_a9 g_a4 hk0 hk1 hk2) e0 O_a1.1 (hb hby d7_3) hml.symm rfl rfl (Nat.le_refl _) (by decide) (fun v1 T1 L1 X1 q1 => ?_)
  obtain ⟨rfl, M1, Kc1, Rk1_0⟩ := q1
  have N1 := Fr.app N0 M1
  have O_a1_1 := R_MP_keep O_a1 Kc1 (own_nin ne_a1_a4 nl)
  have O_a7_1 := R_ND_keep O_a7 Kc1 (own_nin ne_a4_a7.symm nl)
  have K1 := Keep.trans K0 Kc1 (own_memc (mw 0 rfl) own_memn)
  have Z1 : n0 ≤ T1.heap.size := Nat.le_trans Z0 Kc1.1
  refine g_astoreN X1 hx #[vr a1, vr a2, vr a3, vr a7] (hb hby d7_6) rfl rfl ?_
  refine g_aloadN X1 hx (hb hby d7_7) rfl rfl ?_
  refine g_nonnullYes X1 hx 15 (hb hby d7_8) (by decide) (by decide) ?_
  refine g_aloadN X1 hx (hb hby d7_15) rfl rfl ?_
  refine g_aloadN X1 hx (hb hby d7_16) rfl rfl ?_
  refine g_aloadN X1 hx (hb hby d7_17) rfl rfl ?_
  refine g_V X1 hx hZ hown (lk22 hw) (rm_replaceValue_66 hw a1 a7 a3 a9 a10 a4 T1.heap n0 Z1 O_a7_1 g_a7) (rfl : T1.heap = T1.heap) O_a1_1.1 (hb hby d7_18) hml.symm rfl rfl (Nat.le_refl _) (by decide) (fun v2 T2 L2 X2 q2 => ?_)
  obtain ⟨rfl, M2, Kc2, Rk2_0⟩ := q2
  have N2 := Fr.app N1 M2
  have O_a4_2 := R_ND_keep Rk1_0 Kc2 (own_nin ne_a4_a7 nl)
  have K2 := Keep.trans K1 Kc2 (own_memc (mw 1 rfl) own_memn)
  exact own_retA X2 hx hret hlk rfl rfl (hb hby d7_21) (by decide) (by decide) (by rw [(rfl : T2.heap = T2.heap)]; exact ⟨rfl, N2, K2, O_a4_2, Rk2_0⟩)
theorem rm_compare_132 (hw : HW a0 Z) (a1 a2 : Addr) (a3 a4 : Addr) (i1 i2 i3 : Int32) (h0 : Heap) (n0 : Nat) (Z0 : n0 ≤ h0.size) (O_a1 : R_MP Z h0 a1 .null (.ref a4) (.int 3) (.int i1)) (O_a2 : R_IN Z h0 a2 (.int i2)) (O_a3 : R_IN Z h0 a3 (.int i3)) (hk0 : ¬ (i2 < i3)) (hk1 : ¬ (i2 = i3)) :
    Ctr l Y11 B10 3 (some FieldType.int) [] (rmk 3 0 0 39) Z #[(.ref a1), (.ref a2), (.ref a3)] h0 (fun v h L => v = some (.int 1) ∧ Fr n0 L ∧ h = h0) := by
  refine own_enter pn_2 (fun p e s m below meth c s₁ hx hby hml hown hnm hret hlk hZ X0 e0 => ?_)
  have N0 := Fr.nil n0
  have K0 := Keep.refl h0 []
  rw [ef_8_RRR m _ _ _]
  refine g_aloadN X0 hx (hb hby d8_0) rfl rfl ?_
  refine g_getF X0 hx hZ hown (Wd18 hw) e0 O_a1.2.1 (hb hby d8_1) (fun T1 X1 e1 => ?_)
  refine g_nonnullNo X1 hx (hb hby d8_4) ?_
  refine g_aloadN X1 hx (hb hby d8_7) rfl rfl ?_
  refine g_cast X1 hx hZ hown (Wd48 hw) e1 (Ins.of_exa O_a2.1 (Wd49 hw)) (hb hby d8_8) (fun T2 X2 e2 => ?_)
  refine g_aloadN X2 hx (hb hby d8_11) rfl rfl ?_
  refine g_F X2 hx hZ hown (lk9 hw) (mvT hZ (Wd52 hw)) (rm_compareTo_36 hw a2 a3 i2 i3 h0 n0 Z0 O_a2 O_a3 hk0 hk1) e2 O_a2.1 (hb hby d8_12) hml.symm rfl rfl (Nat.le_refl _) (by decide) (fun v3 T3 L3 X3 q3 => ?_)
  obtain ⟨rfl, M3, e3⟩ := q3
  have N3 := Fr.app N0 M3
  refine g_goto X3 hx 31 (hb hby d8_17) (by decide) (by decide) ?_
  exact own_retI X3 hx hret hlk (hb hby d8_31) (by decide) (by decide) ⟨rfl, N3, e3⟩
theorem rm_balanceAfterInsert_133 (hw : HW a0 Z) (a1 a2 a3 : Addr) (i1 : Int32) (a4 a5 : Addr) (a6 a7 : Addr) (a8 a9 : Addr) (i2 : Int32) (a10 a11 : Addr) (i3 : Int32) (a12 a13 : Addr) (i4 : Int32) (h0 : Heap) (n0 : Nat) (Z0 : n0 ≤ h0.size) (O_a1 : R_MP Z h0 a1 .null (.ref a3) (.int 4) (.int i1)) (O_a2 : R_ND Z h0 a2 (.ref a4) (.ref a5) .null .null (.ref a6) (.int (-2147483648))) (O_a3 : R_ND Z h0 a3 (.ref a7) (.ref a8) (.ref a6) (.ref a9) .null (.int 2)) (O_a6 : R_ND Z h0 a6 (.ref a10) (.ref a11) .null (.ref a2) (.ref a3) (.int (-2147483648))) (O_a9 : R_ND Z h0 a9 (.ref a12) (.ref a13) .null .null (.ref a3) (.int (-2147483648))) (ne_a1_a3 : a1 ≠ a3) (ne_a1_a6 : a1 ≠ a6) (ne_a1_a9 : a1 ≠ a9) (ne_a3_a6 : a3 ≠ a6) (ne_a3_a9 : a3 ≠ a9) (ne_a6_a9 : a6 ≠ a9) (g_a3 : n0 ≤ a3) (g_a6 : n0 ≤ a6) (g_a9 : n0 ≤ a9) (hk0 : i2 < i3) (hk1 : ¬ (i2 < i4)) (hk2 : ¬ (i2 = i4)) :
    Ctr l Y18 B17 6 none [] (rmk 1 0 0 13) Z #[(.ref a1), (.ref a2)] h0 (fun v h L => v = none ∧ Fr n0 L ∧ Keep h0 h [a3, a6, a9] ∧ R_ND Z h a3 (.ref a7) (.ref a8) (.ref a6) (.ref a9) .null (.int 2) ∧ R_ND Z h a6 (.ref a10) (.ref a11) .null (.ref a2) (.ref a3) (.int 0) ∧ R_ND Z h a9 (.ref a12) (.ref a13) .null .null (.ref a3) (.int 0)) := by
  refine own_enter pn_2 (fun p e s m below meth c s₁ hx hby hml hown hnm hret hlk hZ X0 e0 => ?_)
  have D {q : Nat} {r} (z : decode B17 q = r) : decode c.code q = r := hb hby z
  have N0 := Fr.nil n0
  have K0 := Keep.refl h0 [a3, a6, a9]
  rw [ef_17_RR m _ _]
  refine g_aloadN X0 hx (D d17_0) rfl rfl ?_
  refine g_astoreN X0 hx #[vr a1, vr a2, vr a2, vu, vu, vu] (D d17_1) rfl rfl ?_
  refine g_aloadN X0 hx (D d17_2) rfl rfl ?_
  refine g_getF X0 hx hZ hown (Wd117 hw) e0 O_a2.2.2.2.2.2.1 (D d17_3) (fun T1 X1 e1 => ?_)
  refine g_S X1 hx hZ hown (lk15 hw) (rm_isRed_72 hw a6 a10 a11 a2 a3 h0 n0 Z0 O_a6) e1 (D d17_6) hml.symm rfl rfl (Nat.le_refl _) (by decide) (fun v2 T2 L2 X2 q2 => ?_)
  obtain ⟨rfl, M2, e2⟩ := q2
  have N2 := Fr.app N0 M2
  refine g_ifNo X2 hx (D d17_9) ((if0 _ _).trans (feq ((by decide) : ¬ ((1 : Int32) = (0 : Int32)))).1) ?_
  refine g_aloadN X2 hx (D d17_12) rfl rfl ?_
  refine g_getF X2 hx hZ hown (Wd117 hw) e2 O_a2.2.2.2.2.2.1 (D d17_13) (fun T3 X3 e3 => ?_)
  refine g_astoreN X3 hx #[vr a1, vr a2, vr a2, vr a6, vu, vu] (D d17_16) rfl rfl ?_
  refine g_aloadN X3 hx (D d17_17) rfl rfl ?_
  refine g_getF X3 hx hZ hown (Wd117 hw) e3 O_a6.2.2.2.2.2.1 (D d17_18) (fun T4 X4 e4 => ?_)
  refine g_astore X4 hx #[vr a1, vr a2, vr a2, vr a6, vr a3, vu] (D d17_21) rfl rfl ?_
  refine g_aloadN X4 hx (D d17_23) rfl rfl ?_
  refine g_aload X4 hx (D d17_24) rfl rfl ?_
  refine g_getF X4 hx hZ hown (Wd101 hw) e4 O_a3.2.2.2.1 (D d17_26) (fun T5 X5 e5 => ?_)
  have c29_0 : a6 = a6 := rfl
  refine g_acmp X5 hx 32 true rfl rfl (D d17_29) (decide_eq_true (congrArg Value.ref c29_0)) (by decide) (by decide) ?_
  refine g_aload X5 hx (D d17_32) rfl rfl ?_
  refine g_getF X5 hx hZ hown (Wd103 hw) e5 O_a3.2.2.2.2.1 (D d17_34) (fun T6 X6 e6 => ?_)
  refine g_astore X6 hx #[vr a1, vr a2, vr a2, vr a6, vr a3, vr a9] (D d17_37) rfl rfl ?_
  refine g_aload X6 hx (D d17_39) rfl rfl ?_
  refine g_S X6 hx hZ hown (lk15 hw) (rm_isRed_120 hw a9 a12 a13 a3 h0 n0 Z0 O_a9) e6 (D d17_41) hml.symm rfl rfl (Nat.le_refl _) (by decide) (fun v7 T7 L7 X7 q7 => ?_)
  obtain ⟨rfl, M7, e7⟩ := q7
  have N7 := Fr.app N2 M7
  refine g_ifNo X7 hx (D d17_44) ((if0 _ _).trans (feq ((by decide) : ¬ ((1 : Int32) = (0 : Int32)))).1) ?_
  refine g_aloadN X7 hx (D d17_47) rfl rfl ?_
  refine g_iconst X7 hx (0 : Int32) (D d17_48) (by decide) ?_
  refine g_S X7 hx hZ hown (lk16 hw) (rm_setRed_101 hw a6 a10 a11 a2 a3 h0 n0 Z0 O_a6 g_a6) e7 (D d17_49) hml.symm rfl rfl (Nat.le_refl _) (by decide) (fun v8 T8 L8 X8 q8 => ?_)
  obtain ⟨rfl, M8, Kc8, Rk8_0⟩ := q8
  have N8 := Fr.app N7 M8
  have O_a1_8 := R_MP_keep O_a1 Kc8 (own_nin ne_a1_a6 nl)
  have O_a3_8 := R_ND_keep O_a3 Kc8 (own_nin ne_a3_a6 nl)
  have O_a9_8 := R_ND_keep O_a9 Kc8 (own_nin ne_a6_a9.symm nl)
  have K8 := Keep.trans K0 Kc8 (own_memc (mw 1 rfl) own_memn)
  have Z8 : n0 ≤ T8.heap.size := Nat.le_trans Z0 Kc8.1
  refine g_aload X8 hx (D d17_52) rfl rfl ?_
  refine g_iconst X8 hx (0 : Int32) (D d17_54) (by decide) ?_
  refine g_S X8 hx hZ hown (lk16 hw) (rm_setRed_121 hw a9 a12 a13 a3 T8.heap n0 Z8 O_a9_8 g_a9) (rfl : T8.heap = T8.heap) (D d17_55) hml.symm rfl rfl (Nat.le_refl _) (by decide) (fun v9 T9 L9 X9 q9 => ?_)
  obtain ⟨rfl, M9, Kc9, Rk9_0⟩ := q9
  have N9 := Fr.app N8 M9
  have O_a1_9 := R_MP_keep O_a1_8 Kc9 (own_nin ne_a1_a9 nl)
  have O_a3_9 := R_ND_keep O_a3_8 Kc9 (own_nin ne_a3_a9 nl)
  have O_a6_9 := R_ND_keep Rk8_0 Kc9 (own_nin ne_a6_a9 nl)
  have K9 := Keep.trans K8 Kc9 (own_memc (mw 2 rfl) own_memn)
  have Z9 : n0 ≤ T9.heap.size := Nat.le_trans Z8 Kc9.1
  refine g_aload X9 hx (D d17_58) rfl rfl ?_
  refine g_iconst X9 hx (1 : Int32) (D d17_60) (by decide) ?_
  refine g_S X9 hx hZ hown (lk16 hw) (rm_setRed_122 hw a3 a7 a8 a6 a9 T9.heap n0 Z9 O_a3_9 g_a3) (rfl : T9.heap = T9.heap) (D d17_61) hml.symm rfl rfl (Nat.le_refl _) (by decide) (fun v10 T10 L10 X10 q10 => ?_)
  obtain ⟨rfl, M10, Kc10, Rk10_0⟩ := q10
  have N10 := Fr.app N9 M10
  have O_a1_10 := R_MP_keep O_a1_9 Kc10 (own_nin ne_a1_a3 nl)
  have O_a6_10 := R_ND_keep O_a6_9 Kc10 (own_nin ne_a3_a6.symm nl)
  have O_a9_10 := R_ND_keep Rk9_0 Kc10 (own_nin ne_a3_a9.symm nl)
  have K10 := Keep.trans K9 Kc10 (own_memc (mw 0 rfl) own_memn)
  have Z10 : n0 ≤ T10.heap.size := Nat.le_trans Z9 Kc10.1
  refine g_aload X10 hx (D d17_64) rfl rfl ?_
  refine g_astoreN X10 hx #[vr a1, vr a2, vr a3, vr a6, vr a3, vr a9] (D d17_66) rfl rfl ?_
  refine g_goto X10 hx 107 (D d17_67) (by decide) (by decide) ?_
  refine g_goto X10 hx 185 (D d17_107) (by decide) (by decide) ?_
  refine g_goto X10 hx 2 (D d17_185) (by decide) (by decide) ?_
  refine g_aloadN X10 hx (D d17_2) rfl rfl ?_
  refine g_getF X10 hx hZ hown (Wd117 hw) (rfl : T10.heap = T10.heap) Rk10_0.2.2.2.2.2.1 (D d17_3) (fun T11 X11 e11 => ?_)
  refine g_S X11 hx hZ hown (lk15 hw) (rm_isRed_50 hw  T10.heap n0 Z10 ) e11 (D d17_6) hml.symm rfl rfl (Nat.le_refl _) (by decide) (fun v12 T12 L12 X12 q12 => ?_)
  obtain ⟨rfl, M12, e12⟩ := q12
  have N12 := Fr.app N10 M12
  refine g_ifYes X12 hx 188 (D d17_9) ((if0 _ _).trans (teq ((by decide) : (0 : Int32) = (0 : Int32))).1) (by decide) (by decide) ?_
  refine g_aloadN X12 hx (D d17_188) rfl rfl ?_
  refine g_getF X12 hx hZ hown (Wd25 hw) e12 O_a1_10.2.2.1 (D d17_189) (fun T13 X13 e13 => ?_)
  refine g_iconst X13 hx (0 : Int32) (D d17_192) (by decide) ?_
  refine g_S X13 hx hZ hown (lk16 hw) (rm_setRed_123 hw a3 a7 a8 a6 a9 T10.heap n0 Z10 Rk10_0 g_a3) e13 (D d17_193) hml.symm rfl rfl (Nat.le_refl _) (by decide) (fun v14 T14 L14 X14 q14 => ?_)
  obtain ⟨rfl, M14, Kc14, Rk14_0⟩ := q14
  have N14 := Fr.app N12 M14
  have O_a6_14 := R_ND_keep O_a6_10 Kc14 (own_nin ne_a3_a6.symm nl)
  have O_a9_14 := R_ND_keep O_a9_10 Kc14 (own_nin ne_a3_a9.symm nl)
  have K14 := Keep.trans K10 Kc14 (own_memc (mw 0 rfl) own_memn)
  exact own_retV X14 hx hret hlk (D d17_196) (by decide) (by decide) (by rw [(rfl : T14.heap = T14.heap)]; exact ⟨rfl, N14, K14, Rk14_0, O_a6_14, O_a9_14⟩)
theorem rm_addIfAbsent_131 (hw : HW a0 Z) (a1 a2 : Addr) (a3 a4 : Addr) (i1 i2 : Int32) (a5 a6 : Addr) (a7 a8 : Addr) (i3 : Int32) (a9 a10 : Addr) (a11 a12 : Addr) (i4 : Int32) (h0 : Heap) (n0 : Nat) (Z0 : n0 ≤ h0.size) (O_a1 : R_MP Z h0 a1 .null (.ref a4) (.int 3) (.int i1)) (O_a2 : R_IN Z h0 a2 (.int i2)) (O_a4 : R_ND Z h0 a4 (.ref a5) (.ref a6) (.ref a7) (.ref a8) .null (.int 1)) (O_a5 : R_IN Z h0 a5 (.int i3)) (O_a7 : R_ND Z h0 a7 (.ref a9) (.ref a10) .null .null (.ref a4) (.int (-2147483648))) (O_a8 : R_ND Z h0 a8 (.ref a11) (.ref a12) .null .null (.ref a4) (.int (-2147483648))) (O_a9 : R_IN Z h0 a9 (.int i4)) (ne_a1_a4 : a1 ≠ a4) (ne_a1_a7 : a1 ≠ a7) (ne_a1_a8 : a1 ≠ a8) (ne_a2_a4 : a2 ≠ a4) (ne_a4_a7 : a4 ≠ a7) (ne_a4_a8 : a4 ≠ a8) (ne_a4_a9 : a4 ≠ a9) (ne_a7_a8 : a7 ≠ a8) (g_a1 : n0 ≤ a1) (g_a4 : n0 ≤ a4) (g_a7 : n0 ≤ a7) (g_a8 : n0 ≤ a8) (hk0 : i2 < i3) (hk1 : ¬ (i2 < i4)) (hk2 : ¬ (i2 = i4)) :
    CtrH l Y19 B18 15 (some F1_) [(71, 122, 210, 0), (137, 195, 210, 0), (210, 212, 210, 0)] (rmk 4 1 6 53) Z #[(.ref a1), (.ref a2), (.ref a3)] h0 (fun v h L => ∃ f1, v = some .null ∧ Fr n0 L ∧ Keep h0 h [a1, a4, a7, a8] ∧ h0.size ≤ f1 ∧ R_MP Z h a1 .null (.ref a4) (.int 4) (.int (i1 + (1 : Int32))) ∧ R_ND Z h a4 (.ref a5) (.ref a6) (.ref a7) (.ref a8) .null (.int 2) ∧ R_ND Z h a7 (.ref a9) (.ref a10) .null (.ref f1) (.ref a4) (.int 0) ∧ R_ND Z h a8 (.ref a11) (.ref a12) .null .null (.ref a4) (.int 0) ∧ R_ND Z h f1 (.ref a2) (.ref a3) .null .null (.ref a7) (.int (-2147483648))) := by
  refine own_enterH pn_2 (fun p e s m below meth c s₁ hx hby hml hown hnm hret hlk hZ X0 e0 => ?_)
  have D {q : Nat} {r} (z : decode B18 q = r) : decode c.code q = r := hb hby z
  have N0 := Fr.nil n0
  have K0 := Keep.refl h0 [a1, a4, a7, a8]
  rw [ef_33_RRR m _ _ _]
  refine g_aloadN X0 hx (D d33_0) rfl rfl ?_
  refine g_getF X0 hx hZ hown (Wd25 hw) e0 O_a1.2.2.1 (D d33_1) (fun T1 X1 e1 => ?_)
  refine g_nonnullYes X1 hx 50 (D d33_4) (by decide) (by decide) ?_
  refine g_null X1 hx (D d33_50) ?_
  refine g_astoreN X1 hx #[vr a1, vr a2, vr a3, vn, vu, vu, vu, vu, vu, vu, vu, vu, vu, vu, vu] (D d33_51) rfl rfl ?_
  refine g_iconst X1 hx (0 : Int32) (D d33_52) (by decide) ?_
  refine g_istore X1 hx #[vr a1, vr a2, vr a3, vn, vi 0, vu, vu, vu, vu, vu, vu, vu, vu, vu, vu] (D d33_53) rfl ?_
  refine g_aloadN X1 hx (D d33_55) rfl rfl ?_
  refine g_getF X1 hx hZ hown (Wd25 hw) e1 O_a1.2.2.1 (D d33_56) (fun T2 X2 e2 => ?_)
  refine g_astore X2 hx #[vr a1, vr a2, vr a3, vn, vi 0, vr a4, vu, vu, vu, vu, vu, vu, vu, vu, vu] (D d33_59) rfl rfl ?_
  refine g_aload X2 hx (D d33_61) rfl rfl ?_
  refine g_getF X2 hx hZ hown (Wd100 hw) e2 O_a4.2.1 (D d33_63) (fun T3 X3 e3 => ?_)
  refine g_astore X3 hx #[vr a1, vr a2, vr a3, vn, vi 0, vr a4, vr a5, vu, vu, vu, vu, vu, vu, vu, vu] (D d33_66) rfl rfl ?_
  refine g_null X3 hx (D d33_68) ?_
  refine g_astore X3 hx #[vr a1, vr a2, vr a3, vn, vi 0, vr a4, vr a5, vn, vu, vu, vu, vu, vu, vu, vu] (D d33_69) rfl rfl ?_
  refine g_aload X3 hx (D d33_71) rfl rfl ?_
  refine g_nullNo X3 hx (D d33_73) ?_
  refine g_aload X3 hx (D d33_76) rfl rfl ?_
  refine g_getF X3 hx hZ hown (Wd101 hw) e3 O_a4.2.2.2.1 (D d33_78) (fun T4 X4 e4 => ?_)
  refine g_astore X4 hx #[vr a1, vr a2, vr a3, vn, vi 0, vr a4, vr a5, vn, vr a7, vu, vu, vu, vu, vu, vu] (D d33_81) rfl rfl ?_
  refine g_aload X4 hx (D d33_83) rfl rfl ?_
  refine g_getF X4 hx hZ hown (Wd103 hw) e4 O_a4.2.2.2.2.1 (D d33_85) (fun T5 X5 e5 => ?_)
  refine g_astore X5 hx #[vr a1, vr a2, vr a3, vn, vi 0, vr a4, vr a5, vn, vr a7, vr a8, vu, vu, vu, vu, vu] (D d33_88) rfl rfl ?_
  refine g_aload X5 hx (D d33_90) rfl rfl ?_
  refine g_S X5 hx hZ hown (lk6 hw) (rm_keyOf_44 hw a7 a9 a10 a4 h0 n0 Z0 O_a7) e5 (D d33_92) hml.symm rfl rfl (Nat.le_refl _) (by decide) (fun v6 T6 L6 X6 q6 => ?_)
  obtain ⟨rfl, M6, e6⟩ := q6
  have N6 := Fr.app N0 M6
  refine g_astore X6 hx #[vr a1, vr a2, vr a3, vn, vi 0, vr a4, vr a5, vn, vr a7, vr a8, vr a9, vu, vu, vu, vu] (D d33_95) rfl rfl ?_
  refine g_aload X6 hx (D d33_97) rfl rfl ?_
  refine g_S X6 hx hZ hown (lk6 hw) (rm_keyOf_44 hw a8 a11 a12 a4 h0 n0 Z0 O_a8) e6 (D d33_99) hml.symm rfl rfl (Nat.le_refl _) (by decide) (fun v7 T7 L7 X7 q7 => ?_)
  obtain ⟨rfl, M7, e7⟩ := q7
  have N7 := Fr.app N6 M7
  refine g_astore X7 hx #[vr a1, vr a2, vr a3, vn, vi 0, vr a4, vr a5, vn, vr a7, vr a8, vr a9, vr a11, vu, vu, vu] (D d33_102) rfl rfl ?_
  refine g_aloadN X7 hx (D d33_104) rfl rfl ?_
  refine g_aloadN X7 hx (D d33_105) rfl rfl ?_
  refine g_aload X7 hx (D d33_106) rfl rfl ?_
  refine g_V X7 hx hZ hown (lk10 hw) (rm_compare_117 hw a1 a2 a5 a4 i1 i2 i3 h0 n0 Z0 O_a1 O_a2 O_a5 hk0) e7 O_a1.1 (D d33_108) hml.symm rfl rfl (Nat.le_refl _) (by decide) (fun v8 T8 L8 X8 q8 => ?_)
  obtain ⟨rfl, M8, e8⟩ := q8
  have N8 := Fr.app N7 M8
  refine g_istore X8 hx #[vr a1, vr a2, vr a3, vn, vi 0, vr a4, vr a5, vn, vr a7, vr a8, vr a9, vr a11, vi (-1), vu, vu] (D d33_111) rfl ?_
  refine g_iload X8 hx (D d33_113) rfl ?_
  refine g_ifYes X8 hx 137 (D d33_115) ((if0 _ _).trans (feq ((by decide) : ¬ ((-1 : Int32) = (0 : Int32)))).2) (by decide) (by decide) ?_
  refine g_aload X8 hx (D d33_137) rfl rfl ?_
  refine g_astoreN X8 hx #[vr a1, vr a2, vr a3, vr a4, vi 0, vr a4, vr a5, vn, vr a7, vr a8, vr a9, vr a11, vi (-1), vu, vu] (D d33_139) rfl rfl ?_
  refine g_iload X8 hx (D d33_140) rfl ?_
  refine g_istore X8 hx #[vr a1, vr a2, vr a3, vr a4, vi (-1), vr a4, vr a5, vn, vr a7, vr a8, vr a9, vr a11, vi (-1), vu, vu] (D d33_142) rfl ?_
  refine g_iload X8 hx (D d33_144) rfl ?_
  refine g_ifNo X8 hx (D d33_146) ((if0 _ _).trans (tlt ((by decide) : (-1 : Int32) < (0 : Int32))).2.1) ?_
  refine g_aload X8 hx (D d33_149) rfl rfl ?_
  refine g_iconst X8 hx (1 : Int32) (D d33_151) (by decide) ?_
  refine g_S X8 hx hZ hown (lk11 hw) (rm_addToLeftCount_118 hw a4 a5 a6 a7 a8 h0 n0 Z0 O_a4 g_a4) e8 (D d33_152) hml.symm rfl rfl (Nat.le_refl _) (by decide) (fun v9 T9 L9 X9 q9 => ?_)
  obtain ⟨rfl, M9, Kc9, Rk9_0⟩ := q9
  have N9 := Fr.app N8 M9
  have O_a1_9 := R_MP_keep O_a1 Kc9 (own_nin ne_a1_a4 nl)
  have O_a2_9 := R_IN_keep O_a2 Kc9 (own_nin ne_a2_a4 nl)
  have O_a7_9 := R_ND_keep O_a7 Kc9 (own_nin ne_a4_a7.symm nl)
  have O_a8_9 := R_ND_keep O_a8 Kc9 (own_nin ne_a4_a8.symm nl)
  have O_a9_9 := R_IN_keep O_a9 Kc9 (own_nin ne_a4_a9.symm nl)
  have K9 := Keep.trans K0 Kc9 (own_memc (mw 1 rfl) own_memn)
  have Z9 : n0 ≤ T9.heap.size := Nat.le_trans Z0 Kc9.1
  refine g_iload X9 hx (D d33_155) rfl ?_
  refine g_ifNo X9 hx (D d33_157) ((if0 _ _).trans (tlt ((by decide) : (-1 : Int32) < (0 : Int32))).2.1) ?_
  refine g_aload X9 hx (D d33_160) rfl rfl ?_
  refine g_goto X9 hx 167 (D d33_162) (by decide) (by decide) ?_
  refine g_astore X9 hx #[vr a1, vr a2, vr a3, vr a4, vi (-1), vr a7, vr a5, vn, vr a7, vr a8, vr a9, vr a11, vi (-1), vu, vu] (D d33_167) rfl rfl ?_
  refine g_iload X9 hx (D d33_169) rfl ?_
  refine g_ifNo X9 hx (D d33_171) ((if0 _ _).trans (tlt ((by decide) : (-1 : Int32) < (0 : Int32))).2.1) ?_
  refine g_aload X9 hx (D d33_174) rfl rfl ?_
  refine g_goto X9 hx 181 (D d33_176) (by decide) (by decide) ?_
  refine g_astore X9 hx #[vr a1, vr a2, vr a3, vr a4, vi (-1), vr a7, vr a9, vn, vr a7, vr a8, vr a9, vr a11, vi (-1), vu, vu] (D d33_181) rfl rfl ?_
  refine g_goto X9 hx 71 (D d33_183) (by decide) (by decide) ?_
  refine g_aload X9 hx (D d33_71) rfl rfl ?_
  refine g_nullNo X9 hx (D d33_73) ?_
  refine g_aload X9 hx (D d33_76) rfl rfl ?_
  refine g_getF X9 hx hZ hown (Wd101 hw) (rfl : T9.heap = T9.heap) O_a7_9.2.2.2.1 (D d33_78) (fun T10 X10 e10 => ?_)
  refine g_astore X10 hx #[vr a1, vr a2, vr a3, vr a4, vi (-1), vr a7, vr a9, vn, vn, vr a8, vr a9, vr a11, vi (-1), vu, vu] (D d33_81) rfl rfl ?_
  refine g_aload X10 hx (D d33_83) rfl rfl ?_
  refine g_getF X10 hx hZ hown (Wd103 hw) e10 O_a7_9.2.2.2.2.1 (D d33_85) (fun T11 X11 e11 => ?_)
  refine g_astore X11 hx #[vr a1, vr a2, vr a3, vr a4, vi (-1), vr a7, vr a9, vn, vn, vn, vr a9, vr a11, vi (-1), vu, vu] (D d33_88) rfl rfl ?_
  refine g_aload X11 hx (D d33_90) rfl rfl ?_
  refine g_S X11 hx hZ hown (lk6 hw) (rm_keyOf_12 hw  T9.heap n0 Z9 ) e11 (D d33_92) hml.symm rfl rfl (Nat.le_refl _) (by decide) (fun v12 T12 L12 X12 q12 => ?_)
  obtain ⟨rfl, M12, e12⟩ := q12
  have N12 := Fr.app N9 M12
  refine g_astore X12 hx #[vr a1, vr a2, vr a3, vr a4, vi (-1), vr a7, vr a9, vn, vn, vn, vn, vr a11, vi (-1), vu, vu] (D d33_95) rfl rfl ?_
  refine g_aload X12 hx (D d33_97) rfl rfl ?_
  refine g_S X12 hx hZ hown (lk6 hw) (rm_keyOf_12 hw  T9.heap n0 Z9 ) e12 (D d33_99) hml.symm rfl rfl (Nat.le_refl _) (by decide) (fun v13 T13 L13 X13 q13 => ?_)
  obtain ⟨rfl, M13, e13⟩ := q13
  have N13 := Fr.app N12 M13
  refine g_astore X13 hx #[vr a1, vr a2, vr a3, vr a4, vi (-1), vr a7, vr a9, vn, vn, vn, vn, vn, vi (-1), vu, vu] (D d33_102) rfl rfl ?_
  refine g_aloadN X13 hx (D d33_104) rfl rfl ?_
  refine g_aloadN X13 hx (D d33_105) rfl rfl ?_
  refine g_aload X13 hx (D d33_106) rfl rfl ?_
  refine g_V X13 hx hZ hown (lk10 hw) (rm_compare_132 hw a1 a2 a9 a4 i1 i2 i4 T9.heap n0 Z9 O_a1_9 O_a2_9 O_a9_9 hk1 hk2) e13 O_a1_9.1 (D d33_108) hml.symm rfl rfl (Nat.le_refl _) (by decide) (fun v14 T14 L14 X14 q14 => ?_)
  obtain ⟨rfl, M14, e14⟩ := q14
  have N14 := Fr.app N13 M14
  refine g_istore X14 hx #[vr a1, vr a2, vr a3, vr a4, vi (-1), vr a7, vr a9, vn, vn, vn, vn, vn, vi 1, vu, vu] (D d33_111) rfl ?_
  refine g_iload X14 hx (D d33_113) rfl ?_
  refine g_ifYes X14 hx 137 (D d33_115) ((if0 _ _).trans (feq ((by decide) : ¬ ((1 : Int32) = (0 : Int32)))).2) (by decide) (by decide) ?_
  refine g_aload X14 hx (D d33_137) rfl rfl ?_
  refine g_astoreN X14 hx #[vr a1, vr a2, vr a3, vr a7, vi (-1), vr a7, vr a9, vn, vn, vn, vn, vn, vi 1, vu, vu] (D d33_139) rfl rfl ?_
  refine g_iload X14 hx (D d33_140) rfl ?_
  refine g_istore X14 hx #[vr a1, vr a2, vr a3, vr a7, vi 1, vr a7, vr a9, vn, vn, vn, vn, vn, vi 1, vu, vu] (D d33_142) rfl ?_
  refine g_iload X14 hx (D d33_144) rfl ?_
  refine g_ifYes X14 hx 155 (D d33_146) ((if0 _ _).trans (flt ((by decide) : ¬ ((1 : Int32) < (0 : Int32)))).2.1) (by decide) (by decide) ?_
  refine g_iload X14 hx (D d33_155) rfl ?_
  refine g_ifYes X14 hx 165 (D d33_157) ((if0 _ _).trans (flt ((by decide) : ¬ ((1 : Int32) < (0 : Int32)))).2.1) (by decide) (by decide) ?_
  refine g_aload X14 hx (D d33_165) rfl rfl ?_
  refine g_astore X14 hx #[vr a1, vr a2, vr a3, vr a7, vi 1, vn, vr a9, vn, vn, vn, vn, vn, vi 1, vu, vu] (D d33_167) rfl rfl ?_
  refine g_iload X14 hx (D d33_169) rfl ?_
  refine g_ifYes X14 hx 179 (D d33_171) ((if0 _ _).trans (flt ((by decide) : ¬ ((1 : Int32) < (0 : Int32)))).2.1) (by decide) (by decide) ?_
  refine g_aload X14 hx (D d33_179) rfl rfl ?_
  refine g_astore X14 hx #[vr a1, vr a2, vr a3, vr a7, vi 1, vn, vn, vn, vn, vn, vn, vn, vi 1, vu, vu] (D d33_181) rfl rfl ?_
  refine g_goto X14 hx 71 (D d33_183) (by decide) (by decide) ?_
  refine g_aload X14 hx (D d33_71) rfl rfl ?_
  refine g_nullYes X14 hx 186 (D d33_73) (by decide) (by decide) ?_
  refine g_aloadN X14 hx (D d33_186) rfl rfl ?_
  refine g_aloadN X14 hx (D d33_187) rfl rfl ?_
  refine g_aloadN X14 hx (D d33_188) rfl rfl ?_
  refine g_aloadN X14 hx (D d33_189) rfl rfl ?_
  refine g_V X14 hx hZ hown (lk13 hw) (rm_newNode_18 hw a1 a2 a3 a7 T9.heap n0 Z9 ) e14 O_a1_9.1 (D d33_190) hml.symm rfl rfl (Nat.le_refl _) (by decide) (fun v15 T15 L15 X15 q15 => ?_)
  obtain ⟨b15_0, rfl, M15, Kc15, zb15_0, Rk15_0⟩ := q15
  have N15 := Fr.app N14 M15
  have ne_a1_b15_0 : a1 ≠ b15_0 := Nat.ne_of_lt (Nat.lt_of_lt_of_le O_a1_9.1.lt zb15_0)
  have ne_a7_b15_0 : a7 ≠ b15_0 := Nat.ne_of_lt (Nat.lt_of_lt_of_le O_a7_9.1.lt zb15_0)
  have ne_a8_b15_0 : a8 ≠ b15_0 := Nat.ne_of_lt (Nat.lt_of_lt_of_le O_a8_9.1.lt zb15_0)
  have ne_a4_b15_0 : a4 ≠ b15_0 := Nat.ne_of_lt (Nat.lt_of_lt_of_le Rk9_0.1.lt zb15_0)
  have sz_b15_0 : h0.size ≤ b15_0 := Nat.le_trans K9.1 zb15_0
  have O_a1_15 := R_MP_keep O_a1_9 Kc15 nl
  have O_a7_15 := R_ND_keep O_a7_9 Kc15 nl
  have O_a8_15 := R_ND_keep O_a8_9 Kc15 nl
  have O_a4_15 := R_ND_keep Rk9_0 Kc15 nl
  have K15 := Keep.trans K9 Kc15 own_memn
  have Z15 : n0 ≤ T15.heap.size := Nat.le_trans Z9 Kc15.1
  refine g_astore X15 hx #[vr a1, vr a2, vr a3, vr a7, vi 1, vn, vn, vr b15_0, vn, vn, vn, vn, vi 1, vu, vu] (D d33_193) rfl rfl ?_
  refine g_aload X15 hx (D d33_195) rfl rfl ?_
  refine g_nonnullYes X15 hx 227 (D d33_197) (by decide) (by decide) ?_
  refine g_iload X15 hx (D d33_227) rfl ?_
  refine g_ifYes X15 hx 241 (D d33_229) ((if0 _ _).trans (flt ((by decide) : ¬ ((1 : Int32) < (0 : Int32)))).2.1) (by decide) (by decide) ?_
  refine g_aloadN X15 hx (D d33_241) rfl rfl ?_
  refine g_aload X15 hx (D d33_242) rfl rfl ?_
  refine g_putF X15 hx hZ hown (Wd103 hw) (rfl : T15.heap = T15.heap) O_a7_15.2.2.2.2.1 O_a7_15.1 (Or.inl (Wd104 hw)) (Wd76 hw) fd_2 rfl rfl (D d33_244) (fun T16 h16 X16 e16 W16 => ?_)
  have N16 := Fr.snoc X16 N15 g_a7
  have O_a1_16 := R_MP_other W16 O_a1_15 ne_a1_a7
  have O_a7_16 := R_ND_set_right hw W16 O_a7_15
  have O_a8_16 := R_ND_other W16 O_a8_15 ne_a7_a8.symm
  have O_a4_16 := R_ND_other W16 O_a4_15 ne_a4_a7
  have O_b15_0_16 := R_ND_other W16 Rk15_0 ne_a7_b15_0.symm
  have Z16 : n0 ≤ h16.size := Nat.le_trans Z15 (Nat.le_of_eq W16.size.symm)
  have K16 := Keep.wr K15 W16 (mw 2 rfl)
  refine g_aloadN X16 hx (D d33_247) rfl rfl ?_
  refine g_dup X16 hx (D d33_248) rfl ?_
  refine g_getF X16 hx hZ hown (Wd96 hw) e16 O_a1_16.2.2.2.1 (D d33_249) (fun T17 X17 e17 => ?_)
  refine g_iconst X17 hx (1 : Int32) (D d33_252) (by decide) ?_
  refine g_iadd X17 hx (D d33_253) ?_
  show Go p e below (T17.setTop (mkF m 254 #[vr a1, vr a2, vr a3, vr a7, vi 1, vn, vn, vr b15_0, vn, vn, vn, vn, vi 1, vu, vu] [(.int ((3 : Int32) + (1 : Int32))), (.ref a1)])) _
  rw [show ((3 : Int32) + (1 : Int32)) = (4 : Int32) from by decide]
  refine g_putF X17 hx hZ hown (Wd96 hw) e17 O_a1_16.2.2.2.1 O_a1_16.1 (Or.inl (Wd97 hw)) (Wd2 hw) fd_0 rfl rfl (D d33_254) (fun T18 h18 X18 e18 W18 => ?_)
  have N18 := Fr.snoc X18 N16 g_a1
  have O_a1_18 := R_MP_set_size hw W18 O_a1_16
  have O_a7_18 := R_ND_other W18 O_a7_16 ne_a1_a7.symm
  have O_a8_18 := R_ND_other W18 O_a8_16 ne_a1_a8.symm
  have O_a4_18 := R_ND_other W18 O_a4_16 ne_a1_a4.symm
  have O_b15_0_18 := R_ND_other W18 O_b15_0_16 ne_a1_b15_0.symm
  have Z18 : n0 ≤ h18.size := Nat.le_trans Z16 (Nat.le_of_eq W18.size.symm)
  have K18 := Keep.wr K16 W18 (mw 0 rfl)
  refine g_aloadN X18 hx (D d33_257) rfl rfl ?_
  refine g_aloadN X18 hx (D d33_258) rfl rfl ?_
  refine g_V X18 hx hZ hown (lk14 hw) (rm_refreshToRoot_20 hw a1 a7 h18 n0 Z18 ) e18 O_a1_18.1 (D d33_259) hml.symm rfl rfl (Nat.le_refl _) (by decide) (fun v19 T19 L19 X19 q19 => ?_)
  obtain ⟨rfl, M19, e19⟩ := q19
  have N19 := Fr.app N18 M19
  refine g_aloadN X19 hx (D d33_262) rfl rfl ?_
  refine g_aload X19 hx (D d33_263) rfl rfl ?_
  refine g_P X19 hx hZ hown (lk17 hw) (rm_balanceAfterInsert_133 hw a1 b15_0 a4 i1 a2 a3 a7 a5 a6 a8 i2 a9 a10 i3 a11 a12 i4 h18 n0 Z18 O_a1_18 O_b15_0_18 O_a4_18 O_a7_18 O_a8_18 ne_a1_a4 ne_a1_a7 ne_a1_a8 ne_a4_a7 ne_a4_a8 ne_a7_a8 g_a4 g_a7 g_a8 hk0 hk1 hk2) e19 O_a1_18.1 (D d33_265) hml.symm rfl rfl (Nat.le_refl _) (by decide) (fun v20 T20 L20 X20 q20 => ?_)
  obtain ⟨rfl, M20, Kc20, Rk20_0, Rk20_1, Rk20_2⟩ := q20
  have N20 := Fr.app N19 M20
  have O_a1_20 := R_MP_keep O_a1_18 Kc20 (own_nin ne_a1_a4 (own_nin ne_a1_a7 (own_nin ne_a1_a8 nl)))
  have O_b15_0_20 := R_ND_keep O_b15_0_18 Kc20 (own_nin ne_a4_b15_0.symm (own_nin ne_a7_b15_0.symm (own_nin ne_a8_b15_0.symm nl)))
  have K20 := Keep.trans K18 Kc20 (own_memc (mw 1 rfl) (own_memc (mw 2 rfl) (own_memc (mw 3 rfl) own_memn)))
  refine g_aloadN X20 hx (D d33_268) rfl rfl ?_
  refine g_dup X20 hx (D d33_269) rfl ?_
  refine g_getF X20 hx hZ hown (Wd98 hw) (rfl : T20.heap = T20.heap) O_a1_20.2.2.2.2 (D d33_270) (fun T21 X21 e21 => ?_)
  refine g_iconst X21 hx (1 : Int32) (D d33_273) (by decide) ?_
  refine g_iadd X21 hx (D d33_274) ?_
  refine g_putF X21 hx hZ hown (Wd98 hw) e21 O_a1_20.2.2.2.2 O_a1_20.1 (Or.inl (Wd99 hw)) (Wd2 hw) fd_0 rfl rfl (D d33_275) (fun T22 h22 X22 e22 W22 => ?_)
  have N22 := Fr.snoc X22 N20 g_a1
  have O_a1_22 := R_MP_set_modCount hw W22 O_a1_20
  have O_b15_0_22 := R_ND_other W22 O_b15_0_20 ne_a1_b15_0.symm
  have O_a4_22 := R_ND_other W22 Rk20_0 ne_a1_a4.symm
  have O_a7_22 := R_ND_other W22 Rk20_1 ne_a1_a7.symm
  have O_a8_22 := R_ND_other W22 Rk20_2 ne_a1_a8.symm
  have K22 := Keep.wr K20 W22 (mw 0 rfl)
  refine g_null X22 hx (D d33_278) ?_
  exact own_retA X22 hx hret hlk rfl rfl (D d33_279) (by decide) (by decide) (by rw [e22]; exact ⟨b15_0, rfl, N22, K22, sz_b15_0, O_a1_22, O_a4_22, O_a7_22, O_a8_22, O_b15_0_22⟩)
theorem rm_put_130 (hw : HW a0 Z) (a1 a2 : Addr) (a3 a4 : Addr) (i1 i2 : Int32) (a5 a6 : Addr) (a7 a8 : Addr) (i3 : Int32) (a9 a10 : Addr) (a11 a12 : Addr) (i4 : Int32) (h0 : Heap) (n0 : Nat) (Z0 : n0 ≤ h0.size) (O_a1 : R_MP Z h0 a1 .null (.ref a4) (.int 3) (.int i1)) (O_a2 : R_IN Z h0 a2 (.int i2)) (O_a4 : R_ND Z h0 a4 (.ref a5) (.ref a6) (.ref a7) (.ref a8) .null (.int 1)) (O_a5 : R_IN Z h0 a5 (.int i3)) (O_a7 : R_ND Z h0 a7 (.ref a9) (.ref a10) .null .null (.ref a4) (.int (-2147483648))) (O_a8 : R_ND Z h0 a8 (.ref a11) (.ref a12) .null .null (.ref a4) (.int (-2147483648))) (O_a9 : R_IN Z h0 a9 (.int i4)) (ne_a1_a4 : a1 ≠ a4) (ne_a1_a7 : a1 ≠ a7) (ne_a1_a8 : a1 ≠ a8) (ne_a2_a4 : a2 ≠ a4) (ne_a4_a7 : a4 ≠ a7) (ne_a4_a8 : a4 ≠ a8) (ne_a4_a9 : a4 ≠ a9) (ne_a7_a8 : a7 ≠ a8) (g_a1 : n0 ≤ a1) (g_a4 : n0 ≤ a4) (g_a7 : n0 ≤ a7) (g_a8 : n0 ≤ a8) (hk0 : i2 < i3) (hk1 : ¬ (i2 < i4)) (hk2 : ¬ (i2 = i4)) :
    Ctr l Y20 B19 4 (some F3_) [] (rmk 5 1 6 79) Z #[(.ref a1), (.ref a2), (.ref a3)] h0 (fun v h L => ∃ f1, v = some .null ∧ Fr n0 L ∧ Keep h0 h [a1, a4, a7, a8] ∧ h0.size ≤ f1 ∧ R_MP Z h a1 .null (.ref a4) (.int 4) (.int (i1 + (1 : Int32))) ∧ R_ND Z h a4 (.ref a5) (.ref a6) (.ref a7) (.ref a8) .null (.int 2) ∧ R_ND Z h a7 (.ref a9) (.ref a10) .null (.ref f1) (.ref a4) (.int 0) ∧ R_ND Z h a8 (.ref a11) (.ref a12) .null .null (.ref a4) (.int 0) ∧ R_ND Z h f1 (.ref a2) (.ref a3) .null .null (.ref a7) (.int (-2147483648))) := by
  refine own_enter pn_2 (fun p e s m below meth c s₁ hx hby hml hown hnm hret hlk hZ X0 e0 => ?_)
  have N0 := Fr.nil n0
  have K0 := Keep.refl h0 [a1, a4, a7, a8]
  rw [ef_7_RRR m _ _ _]
  refine g_aloadN X0 hx (hb hby d7_0) rfl rfl ?_
  refine g_aloadN X0 hx (hb hby d7_1) rfl rfl ?_
  refine g_aloadN X0 hx (hb hby d7_2) rfl rfl ?_
  refine g_PH X0 hx hZ hown (lk18 hw) (rm_addIfAbsent_131 hw a1 a2 a3 a4 i1 i2 a5 a6 a7 a8 i3 a9 a10 a11 a12 i4 h0 n0 Z0 O_a1 O_a2 O_a4 O_a5 O_a7 O_a8 O_a9 ne_a1_a4 ne_a1_a7 ne_a1_a8 ne_a2_a4 ne_a4_a7 ne_a4_a8 ne_a4_a9 ne_a7_a8 g_a1 g_a4 g_a7 g_a8 hk0 hk1 hk2) e0 O_a1.1 (hb hby d7_3) hml.symm rfl rfl (Nat.le_refl _) (by decide) (fun v1 T1 L1 X1 q1 => ?_)
  obtain ⟨b1_0, rfl, M1, Kc1, zb1_0, Rk1_0, Rk1_1, Rk1_2, Rk1_3, Rk1_4⟩ := q1
  have N1 := Fr.app N0 M1
  have sz_b1_0 : h0.size ≤ b1_0 := Nat.le_trans K0.1 zb1_0
  have K1 := Keep.trans K0 Kc1 (own_memc (mw 0 rfl) (own_memc (mw 1 rfl) (own_memc (mw 2 rfl) (own_memc (mw 3 rfl) own_memn))))
  refine g_astoreN X1 hx #[vr a1, vr a2, vr a3, vn] (hb hby d7_6) rfl rfl ?_
  refine g_aloadN X1 hx (hb hby d7_7) rfl rfl ?_
  refine g_nonnullNo X1 hx (hb hby d7_8) ?_
  refine g_null X1 hx (hb hby d7_11) ?_
  refine g_goto X1 hx 21 (hb hby d7_12) (by decide) (by decide) ?_
  exact own_retA X1 hx hret hlk rfl rfl (hb hby d7_21) (by decide) (by decide) (by rw [(rfl : T1.heap = T1.heap)]; exact ⟨b1_0, rfl, N1, K1, sz_b1_0, Rk1_0, Rk1_1, Rk1_2, Rk1_3, Rk1_4⟩)
theorem rm_addIfAbsent_135 (hw : HW a0 Z) (a1 a2 : Addr) (a3 a4 : Addr) (i1 i2 : Int32) (a5 a6 : Addr) (a7 a8 : Addr) (i3 : Int32) (a9 a10 : Addr) (a11 a12 : Addr) (h0 : Heap) (n0 : Nat) (Z0 : n0 ≤ h0.size) (O_a1 : R_MP Z h0 a1 .null (.ref a4) (.int 3) (.int i1)) (O_a2 : R_IN Z h0 a2 (.int i2)) (O_a4 : R_ND Z h0 a4 (.ref a5) (.ref a6) (.ref a7) (.ref a8) .null (.int 1)) (O_a5 : R_IN Z h0 a5 (.int i3)) (O_a7 : R_ND Z h0 a7 (.ref a9) (.ref a10) .null .null (.ref a4) (.int (-2147483648))) (O_a8 : R_ND Z h0 a8 (.ref a11) (.ref a12) .null .null (.ref a4) (.int (-2147483648))) (hk0 : ¬ (i2 < i3)) (hk1 : i2 = i3) :
    CtrH l Y19 B18 15 (some F1_) [(71, 122, 210, 0), (137, 195, 210, 0), (210, 212, 210, 0)] (rmk 4 0 0 53) Z #[(.ref a1), (.ref a2), (.ref a3)] h0 (fun v h L => v = some (.ref a4) ∧ Fr n0 L ∧ h = h0) := by
  refine own_enterH pn_2 (fun p e s m below meth c s₁ hx hby hml hown hnm hret hlk hZ X0 e0 => ?_)
  have D {q : Nat} {r} (z : decode B18 q = r) : decode c.code q = r := hb hby z
  have N0 := Fr.nil n0
  have K0 := Keep.refl h0 []
  rw [ef_33_RRR m _ _ _]
  refine g_aloadN X0 hx (D d33_0) rfl rfl ?_
  refine g_getF X0 hx hZ hown (Wd25 hw) e0 O_a1.2.2.1 (D d33_1) (fun T1 X1 e1 => ?_)
  refine g_nonnullYes X1 hx 50 (D d33_4) (by decide) (by decide) ?_
  refine g_null X1 hx (D d33_50) ?_
  refine g_astoreN X1 hx #[vr a1, vr a2, vr a3, vn, vu, vu, vu, vu, vu, vu, vu, vu, vu, vu, vu] (D d33_51) rfl rfl ?_
  refine g_iconst X1 hx (0 : Int32) (D d33_52) (by decide) ?_
  refine g_istore X1 hx #[vr a1, vr a2, vr a3, vn, vi 0, vu, vu, vu, vu, vu, vu, vu, vu, vu, vu] (D d33_53) rfl ?_
  refine g_aloadN X1 hx (D d33_55) rfl rfl ?_
  refine g_getF X1 hx hZ hown (Wd25 hw) e1 O_a1.2.2.1 (D d33_56) (fun T2 X2 e2 => ?_)
  refine g_astore X2 hx #[vr a1, vr a2, vr a3, vn, vi 0, vr a4, vu, vu, vu, vu, vu, vu, vu, vu, vu] (D d33_59) rfl rfl ?_
  refine g_aload X2 hx (D d33_61) rfl rfl ?_
  refine g_getF X2 hx hZ hown (Wd100 hw) e2 O_a4.2.1 (D d33_63) (fun T3 X3 e3 => ?_)
  refine g_astore X3 hx #[vr a1, vr a2, vr a3, vn, vi 0, vr a4, vr a5, vu, vu, vu, vu, vu, vu, vu, vu] (D d33_66) rfl rfl ?_
  refine g_null X3 hx (D d33_68) ?_
  refine g_astore X3 hx #[vr a1, vr a2, vr a3, vn, vi 0, vr a4, vr a5, vn, vu, vu, vu, vu, vu, vu, vu] (D d33_69) rfl rfl ?_
  refine g_aload X3 hx (D d33_71) rfl rfl ?_
  refine g_nullNo X3 hx (D d33_73) ?_
  refine g_aload X3 hx (D d33_76) rfl rfl ?_
  refine g_getF X3 hx hZ hown (Wd101 hw) e3 O_a4.2.2.2.1 (D d33_78) (fun T4 X4 e4 => ?_)
  refine g_astore X4 hx #[vr a1, vr a2, vr a3, vn, vi 0, vr a4, vr a5, vn, vr a7, vu, vu, vu, vu, vu, vu] (D d33_81) rfl rfl ?_
  refine g_aload X4 hx (D d33_83) rfl rfl ?_
  refine g_getF X4 hx hZ hown (Wd103 hw) e4 O_a4.2.2.2.2.1 (D d33_85) (fun T5 X5 e5 => ?_)
  refine g_astore X5 hx #[vr a1, vr a2, vr a3, vn, vi 0, vr a4, vr a5, vn, vr a7, vr a8, vu, vu, vu, vu, vu] (D d33_88) rfl rfl ?_
  refine g_aload X5 hx (D d33_90) rfl rfl ?_
  refine g_S X5 hx hZ hown (lk6 hw) (rm_keyOf_44 hw a7 a9 a10 a4 h0 n0 Z0 O_a7) e5 (D d33_92) hml.symm rfl rfl (Nat.le_refl _) (by decide) (fun v6 T6 L6 X6 q6 => ?_)
  obtain ⟨rfl, M6, e6⟩ := q6
  have N6 := Fr.app N0 M6
  refine g_astore X6 hx #[vr a1, vr a2, vr a3, vn, vi 0, vr a4, vr a5, vn, vr a7, vr a8, vr a9, vu, vu, vu, vu] (D d33_95) rfl rfl ?_
  refine g_aload X6 hx (D d33_97) rfl rfl ?_
  refine g_S X6 hx hZ hown (lk6 hw) (rm_keyOf_44 hw a8 a11 a12 a4 h0 n0 Z0 O_a8) e6 (D d33_99) hml.symm rfl rfl (Nat.le_refl _) (by decide) (fun v7 T7 L7 X7 q7 => ?_)
  obtain ⟨rfl, M7, e7⟩ := q7
  have N7 := Fr.app N6 M7
  refine g_astore X7 hx #[vr a1, vr a2, vr a3, vn, vi 0, vr a4, vr a5, vn, vr a7, vr a8, vr a9, vr a11, vu, vu, vu] (D d33_102) rfl rfl ?_
  refine g_aloadN X7 hx (D d33_104) rfl rfl ?_
  refine g_aloadN X7 hx (D d33_105) rfl rfl ?_
  refine g_aload X7 hx (D d33_106) rfl rfl ?_
  refine g_V X7 hx hZ hown (lk10 hw) (rm_compare_126 hw a1 a2 a5 a4 i1 i2 i3 h0 n0 Z0 O_a1 O_a2 O_a5 hk0 hk1) e7 O_a1.1 (D d33_108) hml.symm rfl rfl (Nat.le_refl _) (by decide) (fun v8 T8 L8 X8 q8 => ?_)
  obtain ⟨rfl, M8, e8⟩ := q8
  have N8 := Fr.app N7 M8
  refine g_istore X8 hx #[vr a1, vr a2, vr a3, vn, vi 0, vr a4, vr a5, vn, vr a7, vr a8, vr a9, vr a11, vi 0, vu, vu] (D d33_111) rfl ?_
  refine g_iload X8 hx (D d33_113) rfl ?_
  refine g_ifNo X8 hx (D d33_115) ((if0 _ _).trans (teq ((by decide) : (0 : Int32) = (0 : Int32))).2) ?_
  refine g_aload X8 hx (D d33_118) rfl rfl ?_
  refine g_astore X8 hx #[vr a1, vr a2, vr a3, vn, vi 0, vr a4, vr a5, vn, vr a7, vr a8, vr a9, vr a11, vi 0, vr a4, vu] (D d33_120) rfl rfl ?_
  refine g_aload X8 hx (D d33_122) rfl rfl ?_
  refine g_nonnullNo X8 hx (D d33_124) ?_
  refine g_aloadN X8 hx (D d33_127) rfl rfl ?_
  refine g_iload X8 hx (D d33_128) rfl ?_
  refine g_iconst X8 hx (-1 : Int32) (D d33_130) (by decide) ?_
  refine g_S X8 hx hZ hown (lk20 hw) (rm_countPlace_30 hw  h0 n0 Z0 ) e8 (D d33_131) hml.symm rfl rfl (Nat.le_refl _) (by decide) (fun v9 T9 L9 X9 q9 => ?_)
  obtain ⟨rfl, M9, e9⟩ := q9
  have N9 := Fr.app N8 M9
  refine g_aload X9 hx (D d33_134) rfl rfl ?_
  exact own_retA X9 hx hret hlk rfl rfl (D d33_136) (by decide) (by decide) ⟨rfl, N9, e9⟩
theorem rm_setValue_137 (hw : HW a0 Z) (a1 a2 : Addr) (a3 a4 : Addr) (a5 a6 : Addr) (h0 : Heap) (n0 : Nat) (Z0 : n0 ≤ h0.size) (O_a1 : R_ND Z h0 a1 (.ref a3) (.ref a4) (.ref a5) (.ref a6) .null (.int 1)) (g_a1 : n0 ≤ a1) :
    Ctr l Y22 B21 3 (some F3_) [] (rmk 0 0 0 0) Z #[(.ref a1), (.ref a2)] h0 (fun v h L => v = some (.ref a4) ∧ Fr n0 L ∧ Keep h0 h [a1] ∧ R_ND Z h a1 (.ref a3) (.ref a2) (.ref a5) (.ref a6) .null (.int 1)) := by
  refine own_enter pn_3 (fun p e s m below meth c s₁ hx hby hml hown hnm hret hlk hZ X0 e0 => ?_)
  have N0 := Fr.nil n0
  have K0 := Keep.refl h0 [a1]
  rw [ef_31_RR m _ _]
  refine g_aloadN X0 hx (hb hby d31_0) rfl rfl ?_
  refine g_getF X0 hx hZ hown (Wd87 hw) e0 O_a1.2.2.1 (hb hby d31_1) (fun T1 X1 e1 => ?_)
  refine g_astoreN X1 hx #[vr a1, vr a2, vr a4] (hb hby d31_4) rfl rfl ?_
  refine g_aloadN X1 hx (hb hby d31_5) rfl rfl ?_
  refine g_aloadN X1 hx (hb hby d31_6) rfl rfl ?_
  refine g_putF X1 hx hZ hown (Wd87 hw) e1 O_a1.2.2.1 O_a1.1 (Or.inl (Wd88 hw)) (Wd76 hw) fd_1 rfl rfl (hb hby d31_7) (fun T2 h2 X2 e2 W2 => ?_)
  have N2 := Fr.snoc X2 N0 g_a1
  have O_a1_2 := R_ND_set_value hw W2 O_a1
  have K2 := Keep.wr K0 W2 (mw 0 rfl)
  refine g_aloadN X2 hx (hb hby d31_10) rfl rfl ?_
  exact own_retA X2 hx hret hlk rfl rfl (hb hby d31_11) (by decide) (by decide) (by rw [e2]; exact ⟨rfl, N2, K2, O_a1_2⟩)
theorem rm_replaceValue_136 (hw : HW a0 Z) (a1 a2 : Addr) (a3 a4 : Addr) (a5 a6 a7 : Addr) (h0 : Heap) (n0 : Nat) (Z0 : n0 ≤ h0.size) (O_a2 : R_ND Z h0 a2 (.ref a4) (.ref a5) (.ref a6) (.ref a7) .null (.int 1)) (g_a2 : n0 ≤ a2) :
    Ctr l Y23 B22 3 (some F3_) [] (rmk 1 0 0 14) Z #[(.ref a1), (.ref a2), (.ref a3)] h0 (fun v h L => v = some (.ref a5) ∧ Fr n0 L ∧ Keep h0 h [a2] ∧ R_ND Z h a2 (.ref a4) (.ref a3) (.ref a6) (.ref a7) .null (.int 1)) := by
  refine own_enter pn_2 (fun p e s m below meth c s₁ hx hby hml hown hnm hret hlk hZ X0 e0 => ?_)
  have N0 := Fr.nil n0
  have K0 := Keep.refl h0 [a2]
  rw [ef_30_RRR m _ _ _]
  refine g_aloadN X0 hx (hb hby d30_0) rfl rfl ?_
  refine g_aloadN X0 hx (hb hby d30_1) rfl rfl ?_
  refine g_V X0 hx hZ hown (lk21 hw) (rm_setValue_137 hw a2 a3 a4 a5 a6 a7 h0 n0 Z0 O_a2 g_a2) e0 O_a2.1 (hb hby d30_2) hml.symm rfl rfl (Nat.le_refl _) (by decide) (fun v1 T1 L1 X1 q1 => ?_)
  obtain ⟨rfl, M1, Kc1, Rk1_0⟩ := q1
  have N1 := Fr.app N0 M1
  have K1 := Keep.trans K0 Kc1 (own_memc (mw 0 rfl) own_memn)
  exact own_retA X1 hx hret hlk rfl rfl (hb hby d30_5) (by decide) (by decide) (by rw [(rfl : T1.heap = T1.heap)]; exact ⟨rfl, N1, K1, Rk1_0⟩)
theorem rm_put_134 (hw : HW a0 Z) (a1 a2 : Addr) (a3 a4 : Addr) (i1 i2 : Int32) (a5 a6 : Addr) (a7 a8 : Addr) (i3 : Int32) (a9 a10 : Addr) (a11 a12 : Addr) (h0 : Heap) (n0 : Nat) (Z0 : n0 ≤ h0.size) (O_a1 : R_MP Z h0 a1 .null (.ref a4) (.int 3) (.int i1)) (O_a2 : R_IN Z h0 a2 (.int i2)) (O_a4 : R_ND Z h0 a4 (.ref a5) (.ref a6) (.ref a7) (.ref a8) .null (.int 1)) (O_a5 : R_IN Z h0 a5 (.int i3)) (O_a7 : R_ND Z h0 a7 (.ref a9) (.ref a10) .null .null (.ref a4) (.int (-2147483648))) (O_a8 : R_ND Z h0 a8 (.ref a11) (.ref a12) .null .null (.ref a4) (.int (-2147483648))) (g_a4 : n0 ≤ a4) (hk0 : ¬ (i2 < i3)) (hk1 : i2 = i3) :
    Ctr l Y20 B19 4 (some F3_) [] (rmk 5 0 0 79) Z #[(.ref a1), (.ref a2), (.ref a3)] h0 (fun v h L => v = some (.ref a6) ∧ Fr n0 L ∧ Keep h0 h [a4] ∧ R_ND Z h a4 (.ref a5) (.ref a3) (.ref a7) (.ref a8) .null (.int 1)) := by
  refine own_enter pn_2 (fun p e s m below meth c s₁ hx hby hml hown hnm hret hlk hZ X0 e0 => ?_)
  have N0 := Fr.nil n0
  have K0 := Keep.refl h0 [a4]
  rw [ef_7_RRR m _ _ _]
  refine g_aloadN X0 hx (hb hby d7_0) rfl rfl ?_
  refine g_aloadN X0 hx (hb hby d7_1) rfl rfl ?_
  refine g_aloadN X0 hx (hb hby d7_2) rfl rfl ?_
  refine g_PH X0 hx hZ hown (lk18 hw) (rm_addIfAbsent_135 hw a1 a2 a3 a4 i1 i2 a5 a6 a7 a8 i3 a9 a10 a11 a12 h0 n0 Z0 O_a1 O_a2 O_a4 O_a5 O_a7 O_a8 hk0 hk1) e0 O_a1.1 (hb hby d7_3) hml.symm rfl rfl (Nat.le_refl _) (by decide) (fun v1 T1 L1 X1 q1 => ?_)
  obtain ⟨rfl, M1, e1⟩ := q1
  have N1 := Fr.app N0 M1
  refine g_astoreN X1 hx #[vr a1, vr a2, vr a3, vr a4] (hb hby d7_6) rfl rfl ?_
  refine g_aloadN X1 hx (hb hby d7_7) rfl rfl ?_
  refine g_nonnullYes X1 hx 15 (hb hby d7_8) (by decide) (by decide) ?_
  refine g_aloadN X1 hx (hb hby d7_15) rfl rfl ?_
  refine g_aloadN X1 hx (hb hby d7_16) rfl rfl ?_
  refine g_aloadN X1 hx (hb hby d7_17) rfl rfl ?_
  refine g_V X1 hx hZ hown (lk22 hw) (rm_replaceValue_136 hw a1 a4 a3 a5 a6 a7 a8 h0 n0 Z0 O_a4 g_a4) e1 O_a1.1 (hb hby d7_18) hml.symm rfl rfl (Nat.le_refl _) (by decide) (fun v2 T2 L2 X2 q2 => ?_)
  obtain ⟨rfl, M2, Kc2, Rk2_0⟩ := q2
  have N2 := Fr.app N1 M2
  have K2 := Keep.trans K0 Kc2 (own_memc (mw 0 rfl) own_memn)
  exact own_retA X2 hx hret hlk rfl rfl (hb hby d7_21) (by decide) (by decide) (by rw [(rfl : T2.heap = T2.heap)]; exact ⟨rfl, N2, K2, Rk2_0⟩)
theorem rm_setRed_141 (hw : HW a0 Z) (a1 a2 : Addr) (a3 a4 a5 : Addr) (h0 : Heap) (n0 : Nat) (Z0 : n0 ≤ h0.size) (O_a1 : R_ND Z h0 a1 (.ref a2) (.ref a3) (.ref a4) (.ref a5) .null (.int 1)) (g_a1 : n0 ≤ a1) :
    Ctr l Y17 B16 2 none [] (rmk 0 0 0 0) Z #[(.ref a1), (.int 1)] h0 (fun v h L => v = none ∧ Fr n0 L ∧ Keep h0 h [a1] ∧ R_ND Z h a1 (.ref a2) (.ref a3) (.ref a4) (.ref a5) .null (.int (-2147483647))) := by
  refine own_enter pn_2 (fun p e s m below meth c s₁ hx hby hml hown hnm hret hlk hZ X0 e0 => ?_)
  have N0 := Fr.nil n0
  have K0 := Keep.refl h0 [a1]
  rw [ef_14_RI m _ _]
  refine g_aloadN X0 hx (hb hby d14_0) rfl rfl ?_
  refine g_iloadN X0 hx (hb hby d14_1) rfl ?_
  refine g_ifNo X0 hx (hb hby d14_2) ((if0 _ _).trans (feq ((by decide) : ¬ ((1 : Int32) = (0 : Int32)))).1) ?_
  refine g_aloadN X0 hx (hb hby d14_5) rfl rfl ?_
  refine g_getF X0 hx hZ hown (Wd94 hw) e0 O_a1.2.2.2.2.2.2 (hb hby d14_6) (fun T1 X1 e1 => ?_)
  refine g_ldcw X1 hx hZ hown (Wd121 hw) (hb hby d14_9) ?_
  refine g_ior X1 hx (hb hby d14_12) ?_
  show Go p e below (T1.setTop (mkF m 13 #[vr a1, vi 1] [(.int ((1 : Int32) ||| (-2147483648 : Int32))), (.ref a1)])) _
  rw [show ((1 : Int32) ||| (-2147483648 : Int32)) = (-2147483647 : Int32) from by decide]
  refine g_goto X1 hx 24 (hb hby d14_13) (by decide) (by decide) ?_
  refine g_putF X1 hx hZ hown (Wd94 hw) e1 O_a1.2.2.2.2.2.2 O_a1.1 (Or.inl (Wd84 hw)) (Wd76 hw) fd_0 rfl rfl (hb hby d14_24) (fun T2 h2 X2 e2 W2 => ?_)
  have N2 := Fr.snoc X2 N0 g_a1
  have O_a1_2 := R_ND_set_redAndLeftCount hw W2 O_a1
  have K2 := Keep.wr K0 W2 (mw 0 rfl)
  exact own_retV X2 hx hret hlk (hb hby d14_27) (by decide) (by decide) (by rw [e2]; exact ⟨rfl, N2, K2, O_a1_2⟩)
theorem rm_setRed_142 (hw : HW a0 Z) (a1 a2 : Addr) (a3 a4 a5 : Addr) (h0 : Heap) (n0 : Nat) (Z0 : n0 ≤ h0.size) (O_a1 : R_ND Z h0 a1 (.ref a2) (.ref a3) (.ref a4) (.ref a5) .null (.int (-2147483647))) (g_a1 : n0 ≤ a1) :
    Ctr l Y17 B16 2 none [] (rmk 0 0 0 0) Z #[(.ref a1), (.int 0)] h0 (fun v h L => v = none ∧ Fr n0 L ∧ Keep h0 h [a1] ∧ R_ND Z h a1 (.ref a2) (.ref a3) (.ref a4) (.ref a5) .null (.int 1)) := by
  refine own_enter pn_2 (fun p e s m below meth c s₁ hx hby hml hown hnm hret hlk hZ X0 e0 => ?_)
  have N0 := Fr.nil n0
  have K0 := Keep.refl h0 [a1]
  rw [ef_14_RI m _ _]
  refine g_aloadN X0 hx (hb hby d14_0) rfl rfl ?_
  refine g_iloadN X0 hx (hb hby d14_1) rfl ?_
  refine g_ifYes X0 hx 16 (hb hby d14_2) ((if0 _ _).trans (teq ((by decide) : (0 : Int32) = (0 : Int32))).1) (by decide) (by decide) ?_
  refine g_aloadN X0 hx (hb hby d14_16) rfl rfl ?_
  refine g_getF X0 hx hZ hown (Wd94 hw) e0 O_a1.2.2.2.2.2.2 (hb hby d14_17) (fun T1 X1 e1 => ?_)
  refine g_ldcw X1 hx hZ hown (Wd95 hw) (hb hby d14_20) ?_
  refine g_iand X1 hx (hb hby d14_23) ?_
  show Go p e below (T1.setTop (mkF m 24 #[vr a1, vi 0] [(.int ((-2147483647 : Int32) &&& (2147483647 : Int32))), (.ref a1)])) _
  rw [show ((-2147483647 : Int32) &&& (2147483647 : Int32)) = (1 : Int32) from by decide]
  refine g_putF X1 hx hZ hown (Wd94 hw) e1 O_a1.2.2.2.2.2.2 O_a1.1 (Or.inl (Wd84 hw)) (Wd76 hw) fd_0 rfl rfl (hb hby d14_24) (fun T2 h2 X2 e2 W2 => ?_)
  have N2 := Fr.snoc X2 N0 g_a1
  have O_a1_2 := R_ND_set_redAndLeftCount hw W2 O_a1
  have K2 := Keep.wr K0 W2 (mw 0 rfl)
  exact own_retV X2 hx hret hlk (hb hby d14_27) (by decide) (by decide) (by rw [e2]; exact ⟨rfl, N2, K2, O_a1_2⟩)
theorem d17_125 : decode B17 125 = .ok (.aload_n 3, 1) := by decide +kernel
theorem d17_126 : decode B17 126 = .ok (.iconst 0, 1) := by decide +kernel
theorem d17_127 : decode B17 127 = .ok (.invokestatic 237, 3) := by decide +kernel
theorem d17_130 : decode B17 130 = .ok (.aload 5, 2) := by decide +kernel
theorem d17_132 : decode B17 132 = .ok (.iconst 0, 1) := by decide +kernel
theorem d17_133 : decode B17 133 = .ok (.invokestatic 237, 3) := by decide +kernel
theorem d17_136 : decode B17 136 = .ok (.aload 4, 2) := by decide +kernel
theorem d17_138 : decode B17 138 = .ok (.iconst 1, 1) := by decide +kernel
theorem d17_139 : decode B17 139 = .ok (.invokestatic 237, 3) := by decide +kernel
theorem d17_142 : decode B17 142 = .ok (.aload 4, 2) := by decide +kernel
theorem d17_144 : decode B17 144 = .ok (.astore_n 2, 1) := by decide +kernel
theorem d17_145 : decode B17 145 = .ok (.goto 40, 3) := by decide +kernel
theorem rm_balanceAfterInsert_140 (hw : HW a0 Z) (a1 a2 a3 : Addr) (i1 : Int32) (a4 a5 : Addr) (a6 a7 : Addr) (a8 a9 : Addr) (i2 : Int32) (a10 a11 : Addr) (i3 : Int32) (a12 a13 : Addr) (i4 : Int32) (h0 : Heap) (n0 : Nat) (Z0 : n0 ≤ h0.size) (O_a1 : R_MP Z h0 a1 .null (.ref a3) (.int 4) (.int i1)) (O_a2 : R_ND Z h0 a2 (.ref a4) (.ref a5) .null .null (.ref a6) (.int (-2147483648))) (O_a3 : R_ND Z h0 a3 (.ref a7) (.ref a8) (.ref a9) (.ref a6) .null (.int 1)) (O_a6 : R_ND Z h0 a6 (.ref a10) (.ref a11) (.ref a2) .null (.ref a3) (.int (-2147483647))) (O_a9 : R_ND Z h0 a9 (.ref a12) (.ref a13) .null .null (.ref a3) (.int (-2147483648))) (ne_a1_a3 : a1 ≠ a3) (ne_a1_a6 : a1 ≠ a6) (ne_a1_a9 : a1 ≠ a9) (ne_a3_a6 : a3 ≠ a6) (ne_a3_a9 : a3 ≠ a9) (ne_a6_a9 : a6 ≠ a9) (g_a3 : n0 ≤ a3) (g_a6 : n0 ≤ a6) (g_a9 : n0 ≤ a9) (hk0 : ¬ (i2 < i3)) (hk1 : ¬ (i2 = i3)) (hk2 : i2 < i4) :
    Ctr l Y18 B17 6 none [] (rmk 1 0 0 13) Z #[(.ref a1), (.ref a2)] h0 (fun v h L => v = none ∧ Fr n0 L ∧ Keep h0 h [a3, a6, a9] ∧ R_ND Z h a3 (.ref a7) (.ref a8) (.ref a9) (.ref a6) .null (.int 1) ∧ R_ND Z h a6 (.ref a10) (.ref a11) (.ref a2) .null (.ref a3) (.int 1) ∧ R_ND Z h a9 (.ref a12) (.ref a13) .null .null (.ref a3) (.int 0)) := by
  refine own_enter pn_2 (fun p e s m below meth c s₁ hx hby hml hown hnm hret hlk hZ X0 e0 => ?_)
  have D {q : Nat} {r} (z : decode B17 q = r) : decode c.code q = r := hb hby z
  have N0 := Fr.nil n0
  have K0 := Keep.refl h0 [a3, a6, a9]
  rw [ef_17_RR m _ _]
  refine g_aloadN X0 hx (D d17_0) rfl rfl ?_
  refine g_astoreN X0 hx #[vr a1, vr a2, vr a2, vu, vu, vu] (D d17_1) rfl rfl ?_
  refine g_aloadN X0 hx (D d17_2) rfl rfl ?_
  refine g_getF X0 hx hZ hown (Wd117 hw) e0 O_a2.2.2.2.2.2.1 (D d17_3) (fun T1 X1 e1 => ?_)
  refine g_S X1 hx hZ hown (lk15 hw) (rm_isRed_49 hw a6 a10 a11 a2 a3 h0 n0 Z0 O_a6) e1 (D d17_6) hml.symm rfl rfl (Nat.le_refl _) (by decide) (fun v2 T2 L2 X2 q2 => ?_)
  obtain ⟨rfl, M2, e2⟩ := q2
  have N2 := Fr.app N0 M2
  refine g_ifNo X2 hx (D d17_9) ((if0 _ _).trans (feq ((by decide) : ¬ ((1 : Int32) = (0 : Int32)))).1) ?_
  refine g_aloadN X2 hx (D d17_12) rfl rfl ?_
  refine g_getF X2 hx hZ hown (Wd117 hw) e2 O_a2.2.2.2.2.2.1 (D d17_13) (fun T3 X3 e3 => ?_)
  refine g_astoreN X3 hx #[vr a1, vr a2, vr a2, vr a6, vu, vu] (D d17_16) rfl rfl ?_
  refine g_aloadN X3 hx (D d17_17) rfl rfl ?_
  refine g_getF X3 hx hZ hown (Wd117 hw) e3 O_a6.2.2.2.2.2.1 (D d17_18) (fun T4 X4 e4 => ?_)
  refine g_astore X4 hx #[vr a1, vr a2, vr a2, vr a6, vr a3, vu] (D d17_21) rfl rfl ?_
  refine g_aloadN X4 hx (D d17_23) rfl rfl ?_
  refine g_aload X4 hx (D d17_24) rfl rfl ?_
  refine g_getF X4 hx hZ hown (Wd101 hw) e4 O_a3.2.2.2.1 (D d17_26) (fun T5 X5 e5 => ?_)
  have c29_6 : ¬ (a6 = a9) := ne_a6_a9
  refine g_acmp X5 hx 110 false rfl rfl (D d17_29) (decide_eq_false fun q => c29_6 (Value.ref.inj q)) (by decide) (by decide) ?_
  refine g_aload X5 hx (D d17_110) rfl rfl ?_
  refine g_getF X5 hx hZ hown (Wd101 hw) e5 O_a3.2.2.2.1 (D d17_112) (fun T7 X7 e7 => ?_)
  refine g_astore X7 hx #[vr a1, vr a2, vr a2, vr a6, vr a3, vr a9] (D d17_115) rfl rfl ?_
  refine g_aload X7 hx (D d17_117) rfl rfl ?_
  refine g_S X7 hx hZ hown (lk15 hw) (rm_isRed_120 hw a9 a12 a13 a3 h0 n0 Z0 O_a9) e7 (D d17_119) hml.symm rfl rfl (Nat.le_refl _) (by decide) (fun v8 T8 L8 X8 q8 => ?_)
  obtain ⟨rfl, M8, e8⟩ := q8
  have N8 := Fr.app N2 M8
  refine g_ifNo X8 hx (D d17_122) ((if0 _ _).trans (feq ((by decide) : ¬ ((1 : Int32) = (0 : Int32)))).1) ?_
  refine g_aloadN X8 hx (D d17_125) rfl rfl ?_
  refine g_iconst X8 hx (0 : Int32) (D d17_126) (by decide) ?_
  refine g_S X8 hx hZ hown (lk16 hw) (rm_setRed_51 hw a6 a10 a11 a2 a3 h0 n0 Z0 O_a6 g_a6) e8 (D d17_127) hml.symm rfl rfl (Nat.le_refl _) (by decide) (fun v9 T9 L9 X9 q9 => ?_)
  obtain ⟨rfl, M9, Kc9, Rk9_0⟩ := q9
  have N9 := Fr.app N8 M9
  have O_a1_9 := R_MP_keep O_a1 Kc9 (own_nin ne_a1_a6 nl)
  have O_a3_9 := R_ND_keep O_a3 Kc9 (own_nin ne_a3_a6 nl)
  have O_a9_9 := R_ND_keep O_a9 Kc9 (own_nin ne_a6_a9.symm nl)
  have K9 := Keep.trans K0 Kc9 (own_memc (mw 1 rfl) own_memn)
  have Z9 : n0 ≤ T9.heap.size := Nat.le_trans Z0 Kc9.1
  refine g_aload X9 hx (D d17_130) rfl rfl ?_
  refine g_iconst X9 hx (0 : Int32) (D d17_132) (by decide) ?_
  refine g_S X9 hx hZ hown (lk16 hw) (rm_setRed_121 hw a9 a12 a13 a3 T9.heap n0 Z9 O_a9_9 g_a9) (rfl : T9.heap = T9.heap) (D d17_133) hml.symm rfl rfl (Nat.le_refl _) (by decide) (fun v10 T10 L10 X10 q10 => ?_)
  obtain ⟨rfl, M10, Kc10, Rk10_0⟩ := q10
  have N10 := Fr.app N9 M10
  have O_a1_10 := R_MP_keep O_a1_9 Kc10 (own_nin ne_a1_a9 nl)
  have O_a3_10 := R_ND_keep O_a3_9 Kc10 (own_nin ne_a3_a9 nl)
  have O_a6_10 := R_ND_keep Rk9_0 Kc10 (own_nin ne_a6_a9 nl)
  have K10 := Keep.trans K9 Kc10 (own_memc (mw 2 rfl) own_memn)
  have Z10 : n0 ≤ T10.heap.size := Nat.le_trans Z9 Kc10.1
  refine g_aload X10 hx (D d17_136) rfl rfl ?_
  refine g_iconst X10 hx (1 : Int32) (D d17_138) (by decide) ?_
  refine g_S X10 hx hZ hown (lk16 hw) (rm_setRed_141 hw a3 a7 a8 a9 a6 T10.heap n0 Z10 O_a3_10 g_a3) (rfl : T10.heap = T10.heap) (D d17_139) hml.symm rfl rfl (Nat.le_refl _) (by decide) (fun v11 T11 L11 X11 q11 => ?_)
  obtain ⟨rfl, M11, Kc11, Rk11_0⟩ := q11
  have N11 := Fr.app N10 M11
  have O_a1_11 := R_MP_keep O_a1_10 Kc11 (own_nin ne_a1_a3 nl)
  have O_a6_11 := R_ND_keep O_a6_10 Kc11 (own_nin ne_a3_a6.symm nl)
  have O_a9_11 := R_ND_keep Rk10_0 Kc11 (own_nin ne_a3_a9.symm nl)
  have K11 := Keep.trans K10 Kc11 (own_memc (mw 0 rfl) own_memn)
  have Z11 : n0 ≤ T11.heap.size := Nat.le_trans Z10 Kc11.1
  refine g_aload X11 hx (D d17_142) rfl rfl ?_
  refine g_astoreN X11 hx #[vr a1, vr a2, vr a3, vr a6, vr a3, vr a9] (D d17_144) rfl rfl ?_
  refine g_goto X11 hx 185 (D d17_145) (by decide) (by decide) ?_
  refine g_goto X11 hx 2 (D d17_185) (by decide) (by decide) ?_
  refine g_aloadN X11 hx (D d17_2) rfl rfl ?_
  refine g_getF X11 hx hZ hown (Wd117 hw) (rfl : T11.heap = T11.heap) Rk11_0.2.2.2.2.2.1 (D d17_3) (fun T12 X12 e12 => ?_)
  refine g_S X12 hx hZ hown (lk15 hw) (rm_isRed_50 hw  T11.heap n0 Z11 ) e12 (D d17_6) hml.symm rfl rfl (Nat.le_refl _) (by decide) (fun v13 T13 L13 X13 q13 => ?_)
  obtain ⟨rfl, M13, e13⟩ := q13
  have N13 := Fr.app N11 M13
  refine g_ifYes X13 hx 188 (D d17_9) ((if0 _ _).trans (teq ((by decide) : (0 : Int32) = (0 : Int32))).1) (by decide) (by decide) ?_
  refine g_aloadN X13 hx (D d17_188) rfl rfl ?_
  refine g_getF X13 hx hZ hown (Wd25 hw) e13 O_a1_11.2.2.1 (D d17_189) (fun T14 X14 e14 => ?_)
  refine g_iconst X14 hx (0 : Int32) (D d17_192) (by decide) ?_
  refine g_S X14 hx hZ hown (lk16 hw) (rm_setRed_142 hw a3 a7 a8 a9 a6 T11.heap n0 Z11 Rk11_0 g_a3) e14 (D d17_193) hml.symm rfl rfl (Nat.le_refl _) (by decide) (fun v15 T15 L15 X15 q15 => ?_)
  obtain ⟨rfl, M15, Kc15, Rk15_0⟩ := q15
  have N15 := Fr.app N13 M15
  have O_a6_15 := R_ND_keep O_a6_11 Kc15 (own_nin ne_a3_a6.symm nl)
  have O_a9_15 := R_ND_keep O_a9_11 Kc15 (own_nin ne_a3_a9.symm nl)
  have K15 := Keep.trans K11 Kc15 (own_memc (mw 0 rfl) own_memn)
  exact own_retV X15 hx hret hlk (D d17_196) (by decide) (by decide) (by rw [(rfl : T15.heap = T15.heap)]; exact ⟨rfl, N15, K15, Rk15_0, O_a6_15, O_a9_15⟩)
theorem rm_addIfAbsent_139 (hw : HW a0 Z) (a1 a2 : Addr) (a3 a4 : Addr) (i1 i2 : Int32) (a5 a6 : Addr) (a7 a8 : Addr) (i3 : Int32) (a9 a10 : Addr) (a11 a12 : Addr) (i5 : Int32) (h0 : Heap) (n0 : Nat) (Z0 : n0 ≤ h0.size) (O_a1 : R_MP Z h0 a1 .null (.ref a4) (.int 3) (.int i1)) (O_a2 : R_IN Z h0 a2 (.int i2)) (O_a4 : R_ND Z h0 a4 (.ref a5) (.ref a6) (.ref a7) (.ref a8) .null (.int 1)) (O_a5 : R_IN Z h0 a5 (.int i3)) (O_a7 : R_ND Z h0 a7 (.ref a9) (.ref a10) .null .null (.ref a4) (.int (-2147483648))) (O_a8 : R_ND Z h0 a8 (.ref a11) (.ref a12) .null .null (.ref a4) (.int (-2147483648))) (O_a11 : R_IN Z h0 a11 (.int i5)) (ne_a1_a4 : a1 ≠ a4) (ne_a1_a7 : a1 ≠ a7) (ne_a1_a8 : a1 ≠ a8) (ne_a4_a7 : a4 ≠ a7) (ne_a4_a8 : a4 ≠ a8) (ne_a7_a8 : a7 ≠ a8) (g_a1 : n0 ≤ a1) (g_a4 : n0 ≤ a4) (g_a7 : n0 ≤ a7) (g_a8 : n0 ≤ a8) (hk0 : ¬ (i2 < i3)) (hk1 : ¬ (i2 = i3)) (hk2 : i2 < i5) :
    CtrH l Y19 B18 15 (some F1_) [(71, 122, 210, 0), (137, 195, 210, 0), (210, 212, 210, 0)] (rmk 4 1 6 53) Z #[(.ref a1), (.ref a2), (.ref a3)] h0 (fun v h L => ∃ f1, v = some .null ∧ Fr n0 L ∧ Keep h0 h [a1, a4, a7, a8] ∧ h0.size ≤ f1 ∧ R_MP Z h a1 .null (.ref a4) (.int 4) (.int (i1 + (1 : Int32))) ∧ R_ND Z h a4 (.ref a5) (.ref a6) (.ref a7) (.ref a8) .null (.int 1) ∧ R_ND Z h a7 (.ref a9) (.ref a10) .null .null (.ref a4) (.int 0) ∧ R_ND Z h a8 (.ref a11) (.ref a12) (.ref f1) .null (.ref a4) (.int 1) ∧ R_ND Z h f1 (.ref a2) (.ref a3) .null .null (.ref a8) (.int (-2147483648))) := by
  refine own_enterH pn_2 (fun p e s m below meth c s₁ hx hby hml hown hnm hret hlk hZ X0 e0 => ?_)
  have D {q : Nat} {r} (z : decode B18 q = r) : decode c.code q = r := hb hby z
  have N0 := Fr.nil n0
  have K0 := Keep.refl h0 [a1, a4, a7, a8]
  rw [ef_33_RRR m _ _ _]
  refine g_aloadN X0 hx (D d33_0) rfl rfl ?_
  refine g_getF X0 hx hZ hown (Wd25 hw) e0 O_a1.2.2.1 (D d33_1) (fun T1 X1 e1 => ?_)
  refine g_nonnullYes X1 hx 50 (D d33_4) (by decide) (by decide) ?_
  refine g_null X1 hx (D d33_50) ?_
  refine g_astoreN X1 hx #[vr a1, vr a2, vr a3, vn, vu, vu, vu, vu, vu, vu, vu, vu, vu, vu, vu] (D d33_51) rfl rfl ?_
  refine g_iconst X1 hx (0 : Int32) (D d33_52) (by decide) ?_
  refine g_istore X1 hx #[vr a1, vr a2, vr a3, vn, vi 0, vu, vu, vu, vu, vu, vu, vu, vu, vu, vu] (D d33_53) rfl ?_
  refine g_aloadN X1 hx (D d33_55) rfl rfl ?_
  refine g_getF X1 hx hZ hown (Wd25 hw) e1 O_a1.2.2.1 (D d33_56) (fun T2 X2 e2 => ?_)
  refine g_astore X2 hx #[vr a1, vr a2, vr a3, vn, vi 0, vr a4, vu, vu, vu, vu, vu, vu, vu, vu, vu] (D d33_59) rfl rfl ?_
  refine g_aload X2 hx (D d33_61) rfl rfl ?_
  refine g_getF X2 hx hZ hown (Wd100 hw) e2 O_a4.2.1 (D d33_63) (fun T3 X3 e3 => ?_)
  refine g_astore X3 hx #[vr a1, vr a2, vr a3, vn, vi 0, vr a4, vr a5, vu, vu, vu, vu, vu, vu, vu, vu] (D d33_66) rfl rfl ?_
  refine g_null X3 hx (D d33_68) ?_
  refine g_astore X3 hx #[vr a1, vr a2, vr a3, vn, vi 0, vr a4, vr a5, vn, vu, vu, vu, vu, vu, vu, vu] (D d33_69) rfl rfl ?_
  refine g_aload X3 hx (D d33_71) rfl rfl ?_
  refine g_nullNo X3 hx (D d33_73) ?_
  refine g_aload X3 hx (D d33_76) rfl rfl ?_
  refine g_getF X3 hx hZ hown (Wd101 hw) e3 O_a4.2.2.2.1 (D d33_78) (fun T4 X4 e4 => ?_)
  refine g_astore X4 hx #[vr a1, vr a2, vr a3, vn, vi 0, vr a4, vr a5, vn, vr a7, vu, vu, vu, vu, vu, vu] (D d33_81) rfl rfl ?_
  refine g_aload X4 hx (D d33_83) rfl rfl ?_
  refine g_getF X4 hx hZ hown (Wd103 hw) e4 O_a4.2.2.2.2.1 (D d33_85) (fun T5 X5 e5 => ?_)
  refine g_astore X5 hx #[vr a1, vr a2, vr a3, vn, vi 0, vr a4, vr a5, vn, vr a7, vr a8, vu, vu, vu, vu, vu] (D d33_88) rfl rfl ?_
  refine g_aload X5 hx (D d33_90) rfl rfl ?_
  refine g_S X5 hx hZ hown (lk6 hw) (rm_keyOf_44 hw a7 a9 a10 a4 h0 n0 Z0 O_a7) e5 (D d33_92) hml.symm rfl rfl (Nat.le_refl _) (by decide) (fun v6 T6 L6 X6 q6 => ?_)
  obtain ⟨rfl, M6, e6⟩ := q6
  have N6 := Fr.app N0 M6
  refine g_astore X6 hx #[vr a1, vr a2, vr a3, vn, vi 0, vr a4, vr a5, vn, vr a7, vr a8, vr a9, vu, vu, vu, vu] (D d33_95) rfl rfl ?_
  refine g_aload X6 hx (D d33_97) rfl rfl ?_
  refine g_S X6 hx hZ hown (lk6 hw) (rm_keyOf_44 hw a8 a11 a12 a4 h0 n0 Z0 O_a8) e6 (D d33_99) hml.symm rfl rfl (Nat.le_refl _) (by decide) (fun v7 T7 L7 X7 q7 => ?_)
  obtain ⟨rfl, M7, e7⟩ := q7
  have N7 := Fr.app N6 M7
  refine g_astore X7 hx #[vr a1, vr a2, vr a3, vn, vi 0, vr a4, vr a5, vn, vr a7, vr a8, vr a9, vr a11, vu, vu, vu] (D d33_102) rfl rfl ?_
  refine g_aloadN X7 hx (D d33_104) rfl rfl ?_
  refine g_aloadN X7 hx (D d33_105) rfl rfl ?_
  refine g_aload X7 hx (D d33_106) rfl rfl ?_
  refine g_V X7 hx hZ hown (lk10 hw) (rm_compare_132 hw a1 a2 a5 a4 i1 i2 i3 h0 n0 Z0 O_a1 O_a2 O_a5 hk0 hk1) e7 O_a1.1 (D d33_108) hml.symm rfl rfl (Nat.le_refl _) (by decide) (fun v8 T8 L8 X8 q8 => ?_)
  obtain ⟨rfl, M8, e8⟩ := q8
  have N8 := Fr.app N7 M8
  refine g_istore X8 hx #[vr a1, vr a2, vr a3, vn, vi 0, vr a4, vr a5, vn, vr a7, vr a8, vr a9, vr a11, vi 1, vu, vu] (D d33_111) rfl ?_
  refine g_iload X8 hx (D d33_113) rfl ?_
  refine g_ifYes X8 hx 137 (D d33_115) ((if0 _ _).trans (feq ((by decide) : ¬ ((1 : Int32) = (0 : Int32)))).2) (by decide) (by decide) ?_
  refine g_aload X8 hx (D d33_137) rfl rfl ?_
  refine g_astoreN X8 hx #[vr a1, vr a2, vr a3, vr a4, vi 0, vr a4, vr a5, vn, vr a7, vr a8, vr a9, vr a11, vi 1, vu, vu] (D d33_139) rfl rfl ?_
  refine g_iload X8 hx (D d33_140) rfl ?_
  refine g_istore X8 hx #[vr a1, vr a2, vr a3, vr a4, vi 1, vr a4, vr a5, vn, vr a7, vr a8, vr a9, vr a11, vi 1, vu, vu] (D d33_142) rfl ?_
  refine g_iload X8 hx (D d33_144) rfl ?_
  refine g_ifYes X8 hx 155 (D d33_146) ((if0 _ _).trans (flt ((by decide) : ¬ ((1 : Int32) < (0 : Int32)))).2.1) (by decide) (by decide) ?_
  refine g_iload X8 hx (D d33_155) rfl ?_
  refine g_ifYes X8 hx 165 (D d33_157) ((if0 _ _).trans (flt ((by decide) : ¬ ((1 : Int32) < (0 : Int32)))).2.1) (by decide) (by decide) ?_
  refine g_aload X8 hx (D d33_165) rfl rfl ?_
  refine g_astore X8 hx #[vr a1, vr a2, vr a3, vr a4, vi 1, vr a8, vr a5, vn, vr a7, vr a8, vr a9, vr a11, vi 1, vu, vu] (D d33_167) rfl rfl ?_
  refine g_iload X8 hx (D d33_169) rfl ?_
  refine g_ifYes X8 hx 179 (D d33_171) ((if0 _ _).trans (flt ((by decide) : ¬ ((1 : Int32) < (0 : Int32)))).2.1) (by decide) (by decide) ?_
  refine g_aload X8 hx (D d33_179) rfl rfl ?_
  refine g_astore X8 hx #[vr a1, vr a2, vr a3, vr a4, vi 1, vr a8, vr a11, vn, vr a7, vr a8, vr a9, vr a11, vi 1, vu, vu] (D d33_181) rfl rfl ?_
  refine g_goto X8 hx 71 (D d33_183) (by decide) (by decide) ?_
  refine g_aload X8 hx (D d33_71) rfl rfl ?_
  refine g_nullNo X8 hx (D d33_73) ?_
  refine g_aload X8 hx (D d33_76) rfl rfl ?_
  refine g_getF X8 hx hZ hown (Wd101 hw) e8 O_a8.2.2.2.1 (D d33_78) (fun T9 X9 e9 => ?_)
  refine g_astore X9 hx #[vr a1, vr a2, vr a3, vr a4, vi 1, vr a8, vr a11, vn, vn, vr a8, vr a9, vr a11, vi 1, vu, vu] (D d33_81) rfl rfl ?_
  refine g_aload X9 hx (D d33_83) rfl rfl ?_
  refine g_getF X9 hx hZ hown (Wd103 hw) e9 O_a8.2.2.2.2.1 (D d33_85) (fun T10 X10 e10 => ?_)
  refine g_astore X10 hx #[vr a1, vr a2, vr a3, vr a4, vi 1, vr a8, vr a11, vn, vn, vn, vr a9, vr a11, vi 1, vu, vu] (D d33_88) rfl rfl ?_
  refine g_aload X10 hx (D d33_90) rfl rfl ?_
  refine g_S X10 hx hZ hown (lk6 hw) (rm_keyOf_12 hw  h0 n0 Z0 ) e10 (D d33_92) hml.symm rfl rfl (Nat.le_refl _) (by decide) (fun v11 T11 L11 X11 q11 => ?_)
  obtain ⟨rfl, M11, e11⟩ := q11
  have N11 := Fr.app N8 M11
  refine g_astore X11 hx #[vr a1, vr a2, vr a3, vr a4, vi 1, vr a8, vr a11, vn, vn, vn, vn, vr a11, vi 1, vu, vu] (D d33_95) rfl rfl ?_
  refine g_aload X11 hx (D d33_97) rfl rfl ?_
  refine g_S X11 hx hZ hown (lk6 hw) (rm_keyOf_12 hw  h0 n0 Z0 ) e11 (D d33_99) hml.symm rfl rfl (Nat.le_refl _) (by decide) (fun v12 T12 L12 X12 q12 => ?_)
  obtain ⟨rfl, M12, e12⟩ := q12
  have N12 := Fr.app N11 M12
  refine g_astore X12 hx #[vr a1, vr a2, vr a3, vr a4, vi 1, vr a8, vr a11, vn, vn, vn, vn, vn, vi 1, vu, vu] (D d33_102) rfl rfl ?_
  refine g_aloadN X12 hx (D d33_104) rfl rfl ?_
  refine g_aloadN X12 hx (D d33_105) rfl rfl ?_
  refine g_aload X12 hx (D d33_106) rfl rfl ?_
  refine g_V X12 hx hZ hown (lk10 hw) (rm_compare_117 hw a1 a2 a11 a4 i1 i2 i5 h0 n0 Z0 O_a1 O_a2 O_a11 hk2) e12 O_a1.1 (D d33_108) hml.symm rfl rfl (Nat.le_refl _) (by decide) (fun v13 T13 L13 X13 q13 => ?_)
  obtain ⟨rfl, M13, e13⟩ := q13
  have N13 := Fr.app N12 M13
  refine g_istore X13 hx #[vr a1, vr a2, vr a3, vr a4, vi 1, vr a8, vr a11, vn, vn, vn, vn, vn, vi (-1), vu, vu] (D d33_111) rfl ?_
  refine g_iload X13 hx (D d33_113) rfl ?_
  refine g_ifYes X13 hx 137 (D d33_115) ((if0 _ _).trans (feq ((by decide) : ¬ ((-1 : Int32) = (0 : Int32)))).2) (by decide) (by decide) ?_
  refine g_aload X13 hx (D d33_137) rfl rfl ?_
  refine g_astoreN X13 hx #[vr a1, vr a2, vr a3, vr a8, vi 1, vr a8, vr a11, vn, vn, vn, vn, vn, vi (-1), vu, vu] (D d33_139) rfl rfl ?_
  refine g_iload X13 hx (D d33_140) rfl ?_
  refine g_istore X13 hx #[vr a1, vr a2, vr a3, vr a8, vi (-1), vr a8, vr a11, vn, vn, vn, vn, vn, vi (-1), vu, vu] (D d33_142) rfl ?_
  refine g_iload X13 hx (D d33_144) rfl ?_
  refine g_ifNo X13 hx (D d33_146) ((if0 _ _).trans (tlt ((by decide) : (-1 : Int32) < (0 : Int32))).2.1) ?_
  refine g_aload X13 hx (D d33_149) rfl rfl ?_
  refine g_iconst X13 hx (1 : Int32) (D d33_151) (by decide) ?_
  refine g_S X13 hx hZ hown (lk11 hw) (rm_addToLeftCount_47 hw a8 a11 a12 a4 h0 n0 Z0 O_a8 g_a8) e13 (D d33_152) hml.symm rfl rfl (Nat.le_refl _) (by decide) (fun v14 T14 L14 X14 q14 => ?_)
  obtain ⟨rfl, M14, Kc14, Rk14_0⟩ := q14
  have N14 := Fr.app N13 M14
  have O_a1_14 := R_MP_keep O_a1 Kc14 (own_nin ne_a1_a8 nl)
  have O_a4_14 := R_ND_keep O_a4 Kc14 (own_nin ne_a4_a8 nl)
  have O_a7_14 := R_ND_keep O_a7 Kc14 (own_nin ne_a7_a8 nl)
  have K14 := Keep.trans K0 Kc14 (own_memc (mw 3 rfl) own_memn)
  have Z14 : n0 ≤ T14.heap.size := Nat.le_trans Z0 Kc14.1
  refine g_iload X14 hx (D d33_155) rfl ?_
  refine g_ifNo X14 hx (D d33_157) ((if0 _ _).trans (tlt ((by decide) : (-1 : Int32) < (0 : Int32))).2.1) ?_
  refine g_aload X14 hx (D d33_160) rfl rfl ?_
  refine g_goto X14 hx 167 (D d33_162) (by decide) (by decide) ?_
  refine g_astore X14 hx #[vr a1, vr a2, vr a3, vr a8, vi (-1), vn, vr a11, vn, vn, vn, vn, vn, vi (-1), vu, vu] (D d33_167) rfl rfl ?_
  refine g_iload X14 hx (D d33_169) rfl ?_
  refine g_ifNo X14 hx (D d33_171) ((if0 _ _).trans (tlt ((by decide) : (-1 : Int32) < (0 : Int32))).2.1) ?_
  refine g_aload X14 hx (D d33_174) rfl rfl ?_
  refine g_goto X14 hx 181 (D d33_176) (by decide) (by decide) ?_
  refine g_astore X14 hx #[vr a1, vr a2, vr a3, vr a8, vi (-1), vn, vn, vn, vn, vn, vn, vn, vi (-1), vu, vu] (D d33_181) rfl rfl ?_
  refine g_goto X14 hx 71 (D d33_183) (by decide) (by decide) ?_
  refine g_aload X14 hx (D d33_71) rfl rfl ?_
  refine g_nullYes X14 hx 186 (D d33_73) (by decide) (by decide) ?_
  refine g_aloadN X14 hx (D d33_186) rfl rfl ?_
  refine g_aloadN X14 hx (D d33_187) rfl rfl ?_
  refine g_aloadN X14 hx (D d33_188) rfl rfl ?_
  refine g_aloadN X14 hx (D d33_189) rfl rfl ?_
  refine g_V X14 hx hZ hown (lk13 hw) (rm_newNode_18 hw a1 a2 a3 a8 T14.heap n0 Z14 ) (rfl : T14.heap = T14.heap) O_a1_14.1 (D d33_190) hml.symm rfl rfl (Nat.le_refl _) (by decide) (fun v15 T15 L15 X15 q15 => ?_)
  obtain ⟨b15_0, rfl, M15, Kc15, zb15_0, Rk15_0⟩ := q15
  have N15 := Fr.app N14 M15
  have ne_a1_b15_0 : a1 ≠ b15_0 := Nat.ne_of_lt (Nat.lt_of_lt_of_le O_a1_14.1.lt zb15_0)
  have ne_a4_b15_0 : a4 ≠ b15_0 := Nat.ne_of_lt (Nat.lt_of_lt_of_le O_a4_14.1.lt zb15_0)
  have ne_a7_b15_0 : a7 ≠ b15_0 := Nat.ne_of_lt (Nat.lt_of_lt_of_le O_a7_14.1.lt zb15_0)
  have ne_a8_b15_0 : a8 ≠ b15_0 := Nat.ne_of_lt (Nat.lt_of_lt_of_le Rk14_0.1.lt zb15_0)
  have sz_b15_0 : h0.size ≤ b15_0 := Nat.le_trans K14.1 zb15_0
  have O_a1_15 := R_MP_keep O_a1_14 Kc15 nl
  have O_a4_15 := R_ND_keep O_a4_14 Kc15 nl
  have O_a7_15 := R_ND_keep O_a7_14 Kc15 nl
  have O_a8_15 := R_ND_keep Rk14_0 Kc15 nl
  have K15 := Keep.trans K14 Kc15 own_memn
  have Z15 : n0 ≤ T15.heap.size := Nat.le_trans Z14 Kc15.1
  refine g_astore X15 hx #[vr a1, vr a2, vr a3, vr a8, vi (-1), vn, vn, vr b15_0, vn, vn, vn, vn, vi (-1), vu, vu] (D d33_193) rfl rfl ?_
  refine g_aload X15 hx (D d33_195) rfl rfl ?_
  refine g_nonnullYes X15 hx 227 (D d33_197) (by decide) (by decide) ?_
  refine g_iload X15 hx (D d33_227) rfl ?_
  refine g_ifNo X15 hx (D d33_229) ((if0 _ _).trans (tlt ((by decide) : (-1 : Int32) < (0 : Int32))).2.1) ?_
  refine g_aloadN X15 hx (D d33_232) rfl rfl ?_
  refine g_aload X15 hx (D d33_233) rfl rfl ?_
  refine g_putF X15 hx hZ hown (Wd101 hw) (rfl : T15.heap = T15.heap) O_a8_15.2.2.2.1 O_a8_15.1 (Or.inl (Wd102 hw)) (Wd76 hw) fd_2 rfl rfl (D d33_235) (fun T16 h16 X16 e16 W16 => ?_)
  have N16 := Fr.snoc X16 N15 g_a8
  have O_a1_16 := R_MP_other W16 O_a1_15 ne_a1_a8
  have O_a4_16 := R_ND_other W16 O_a4_15 ne_a4_a8
  have O_a7_16 := R_ND_other W16 O_a7_15 ne_a7_a8
  have O_a8_16 := R_ND_set_left hw W16 O_a8_15
  have O_b15_0_16 := R_ND_other W16 Rk15_0 ne_a8_b15_0.symm
  have Z16 : n0 ≤ h16.size := Nat.le_trans Z15 (Nat.le_of_eq W16.size.symm)
  have K16 := Keep.wr K15 W16 (mw 3 rfl)
  refine g_goto X16 hx 247 (D d33_238) (by decide) (by decide) ?_
  refine g_aloadN X16 hx (D d33_247) rfl rfl ?_
  refine g_dup X16 hx (D d33_248) rfl ?_
  refine g_getF X16 hx hZ hown (Wd96 hw) e16 O_a1_16.2.2.2.1 (D d33_249) (fun T17 X17 e17 => ?_)
  refine g_iconst X17 hx (1 : Int32) (D d33_252) (by decide) ?_
  refine g_iadd X17 hx (D d33_253) ?_
  show Go p e below (T17.setTop (mkF m 254 #[vr a1, vr a2, vr a3, vr a8, vi (-1), vn, vn, vr b15_0, vn, vn, vn, vn, vi (-1), vu, vu] [(.int ((3 : Int32) + (1 : Int32))), (.ref a1)])) _
  rw [show ((3 : Int32) + (1 : Int32)) = (4 : Int32) from by decide]
  refine g_putF X17 hx hZ hown (Wd96 hw) e17 O_a1_16.2.2.2.1 O_a1_16.1 (Or.inl (Wd97 hw)) (Wd2 hw) fd_0 rfl rfl (D d33_254) (fun T18 h18 X18 e18 W18 => ?_)
  have N18 := Fr.snoc X18 N16 g_a1
  have O_a1_18 := R_MP_set_size hw W18 O_a1_16
  have O_a4_18 := R_ND_other W18 O_a4_16 ne_a1_a4.symm
  have O_a7_18 := R_ND_other W18 O_a7_16 ne_a1_a7.symm
  have O_a8_18 := R_ND_other W18 O_a8_16 ne_a1_a8.symm
  have O_b15_0_18 := R_ND_other W18 O_b15_0_16 ne_a1_b15_0.symm
  have Z18 : n0 ≤ h18.size := Nat.le_trans Z16 (Nat.le_of_eq W18.size.symm)
  have K18 := Keep.wr K16 W18 (mw 0 rfl)
  refine g_aloadN X18 hx (D d33_257) rfl rfl ?_
  refine g_aloadN X18 hx (D d33_258) rfl rfl ?_
  refine g_V X18 hx hZ hown (lk14 hw) (rm_refreshToRoot_20 hw a1 a8 h18 n0 Z18 ) e18 O_a1_18.1 (D d33_259) hml.symm rfl rfl (Nat.le_refl _) (by decide) (fun v19 T19 L19 X19 q19 => ?_)
  obtain ⟨rfl, M19, e19⟩ := q19
  have N19 := Fr.app N18 M19
  refine g_aloadN X19 hx (D d33_262) rfl rfl ?_
  refine g_aload X19 hx (D d33_263) rfl rfl ?_
  refine g_P X19 hx hZ hown (lk17 hw) (rm_balanceAfterInsert_140 hw a1 b15_0 a4 i1 a2 a3 a8 a5 a6 a7 i2 a11 a12 i3 a9 a10 i5 h18 n0 Z18 O_a1_18 O_b15_0_18 O_a4_18 O_a8_18 O_a7_18 ne_a1_a4 ne_a1_a8 ne_a1_a7 ne_a4_a8 ne_a4_a7 ne_a7_a8.symm g_a4 g_a8 g_a7 hk0 hk1 hk2) e19 O_a1_18.1 (D d33_265) hml.symm rfl rfl (Nat.le_refl _) (by decide) (fun v20 T20 L20 X20 q20 => ?_)
  obtain ⟨rfl, M20, Kc20, Rk20_0, Rk20_1, Rk20_2⟩ := q20
  have N20 := Fr.app N19 M20
  have O_a1_20 := R_MP_keep O_a1_18 Kc20 (own_nin ne_a1_a4 (own_nin ne_a1_a8 (own_nin ne_a1_a7 nl)))
  have O_b15_0_20 := R_ND_keep O_b15_0_18 Kc20 (own_nin ne_a4_b15_0.symm (own_nin ne_a8_b15_0.symm (own_nin ne_a7_b15_0.symm nl)))
  have K20 := Keep.trans K18 Kc20 (own_memc (mw 1 rfl) (own_memc (mw 3 rfl) (own_memc (mw 2 rfl) own_memn)))
  refine g_aloadN X20 hx (D d33_268) rfl rfl ?_
  refine g_dup X20 hx (D d33_269) rfl ?_
  refine g_getF X20 hx hZ hown (Wd98 hw) (rfl : T20.heap = T20.heap) O_a1_20.2.2.2.2 (D d33_270) (fun T21 X21 e21 => ?_)
  refine g_iconst X21 hx (1 : Int32) (D d33_273) (by decide) ?_
  refine g_iadd X21 hx (D d33_274) ?_
  refine g_putF X21 hx hZ hown (Wd98 hw) e21 O_a1_20.2.2.2.2 O_a1_20.1 (Or.inl (Wd99 hw)) (Wd2 hw) fd_0 rfl rfl (D d33_275) (fun T22 h22 X22 e22 W22 => ?_)
  have N22 := Fr.snoc X22 N20 g_a1
  have O_a1_22 := R_MP_set_modCount hw W22 O_a1_20
  have O_b15_0_22 := R_ND_other W22 O_b15_0_20 ne_a1_b15_0.symm
  have O_a4_22 := R_ND_other W22 Rk20_0 ne_a1_a4.symm
  have O_a8_22 := R_ND_other W22 Rk20_1 ne_a1_a8.symm
  have O_a7_22 := R_ND_other W22 Rk20_2 ne_a1_a7.symm
  have K22 := Keep.wr K20 W22 (mw 0 rfl)
  refine g_null X22 hx (D d33_278) ?_
  exact own_retA X22 hx hret hlk rfl rfl (D d33_279) (by decide) (by decide) (by rw [e22]; exact ⟨b15_0, rfl, N22, K22, sz_b15_0, O_a1_22, O_a4_22, O_a7_22, O_a8_22, O_b15_0_22⟩)
theorem rm_put_138 (hw : HW a0 Z) (a1 a2 : Addr) (a3 a4 : Addr) (i1 i2 : Int32) (a5 a6 : Addr) (a7 a8 : Addr) (i3 : Int32) (a9 a10 : Addr) (a11 a12 : Addr) (i5 : Int32) (h0 : Heap) (n0 : Nat) (Z0 : n0 ≤ h0.size) (O_a1 : R_MP Z h0 a1 .null (.ref a4) (.int 3) (.int i1)) (O_a2 : R_IN Z h0 a2 (.int i2)) (O_a4 : R_ND Z h0 a4 (.ref a5) (.ref a6) (.ref a7) (.ref a8) .null (.int 1)) (O_a5 : R_IN Z h0 a5 (.int i3)) (O_a7 : R_ND Z h0 a7 (.ref a9) (.ref a10) .null .null (.ref a4) (.int (-2147483648))) (O_a8 : R_ND Z h0 a8 (.ref a11) (.ref a12) .null .null (.ref a4) (.int (-2147483648))) (O_a11 : R_IN Z h0 a11 (.int i5)) (ne_a1_a4 : a1 ≠ a4) (ne_a1_a7 : a1 ≠ a7) (ne_a1_a8 : a1 ≠ a8) (ne_a4_a7 : a4 ≠ a7) (ne_a4_a8 : a4 ≠ a8) (ne_a7_a8 : a7 ≠ a8) (g_a1 : n0 ≤ a1) (g_a4 : n0 ≤ a4) (g_a7 : n0 ≤ a7) (g_a8 : n0 ≤ a8) (hk0 : ¬ (i2 < i3)) (hk1 : ¬ (i2 = i3)) (hk2 : i2 < i5) :
    Ctr l Y20 B19 4 (some F3_) [] (rmk 5 1 6 79) Z #[(.ref a1), (.ref a2), (.ref a3)] h0 (fun v h L => ∃ f1, v = some .null ∧ Fr n0 L ∧ Keep h0 h [a1, a4, a7, a8] ∧ h0.size ≤ f1 ∧ R_MP Z h a1 .null (.ref a4) (.int 4) (.int (i1 + (1 : Int32))) ∧ R_ND Z h a4 (.ref a5) (.ref a6) (.ref a7) (.ref a8) .null (.int 1) ∧ R_ND Z h a7 (.ref a9) (.ref a10) .null .null (.ref a4) (.int 0) ∧ R_ND Z h a8 (.ref a11) (.ref a12) (.ref f1) .null (.ref a4) (.int 1) ∧ R_ND Z h f1 (.ref a2) (.ref a3) .null .null (.ref a8) (.int (-2147483648))) := by
  refine own_enter pn_2 (fun p e s m below meth c s₁ hx hby hml hown hnm hret hlk hZ X0 e0 => ?_)
  have N0 := Fr.nil n0
  have K0 := Keep.refl h0 [a1, a4, a7, a8]
  rw [ef_7_RRR m _ _ _]
  refine g_aloadN X0 hx (hb hby d7_0) rfl rfl ?_
  refine g_aloadN X0 hx (hb hby d7_1) rfl rfl ?_
  refine g_aloadN X0 hx (hb hby d7_2) rfl rfl ?_
  refine g_PH X0 hx hZ hown (lk18 hw) (rm_addIfAbsent_139 hw a1 a2 a3 a4 i1 i2 a5 a6 a7 a8 i3 a9 a10 a11 a12 i5 h0 n0 Z0 O_a1 O_a2 O_a4 O_a5 O_a7 O_a8 O_a11 ne_a1_a4 ne_a1_a7 ne_a1_a8 ne_a4_a7 ne_a4_a8 ne_a7_a8 g_a1 g_a4 g_a7 g_a8 hk0 hk1 hk2) e0 O_a1.1 (hb hby d7_3) hml.symm rfl rfl (Nat.le_refl _) (by decide) (fun v1 T1 L1 X1 q1 => ?_)
  obtain ⟨b1_0, rfl, M1, Kc1, zb1_0, Rk1_0, Rk1_1, Rk1_2, Rk1_3, Rk1_4⟩ := q1
  have N1 := Fr.app N0 M1
  have sz_b1_0 : h0.size ≤ b1_0 := Nat.le_trans K0.1 zb1_0
  have K1 := Keep.trans K0 Kc1 (own_memc (mw 0 rfl) (own_memc (mw 1 rfl) (own_memc (mw 2 rfl) (own_memc (mw 3 rfl) own_memn))))
  refine g_astoreN X1 hx #[vr a1, vr a2, vr a3, vn] (hb hby d7_6) rfl rfl ?_
  refine g_aloadN X1 hx (hb hby d7_7) rfl rfl ?_
  refine g_nonnullNo X1 hx (hb hby d7_8) ?_
  refine g_null X1 hx (hb hby d7_11) ?_
  refine g_goto X1 hx 21 (hb hby d7_12) (by decide) (by decide) ?_
  exact own_retA X1 hx hret hlk rfl rfl (hb hby d7_21) (by decide) (by decide) (by rw [(rfl : T1.heap = T1.heap)]; exact ⟨b1_0, rfl, N1, K1, sz_b1_0, Rk1_0, Rk1_1, Rk1_2, Rk1_3, Rk1_4⟩)
theorem rm_countPlace_145 (hw : HW a0 Z) (a1 a2 : Addr) (a3 a4 a5 : Addr) (h0 : Heap) (n0 : Nat) (Z0 : n0 ≤ h0.size) (O_a1 : R_ND Z h0 a1 (.ref a2) (.ref a3) (.ref a4) (.ref a5) .null (.int 1)) :
    Ctr l Y21 B20 3 none [] (rmk 1 0 0 15) Z #[(.ref a1), (.int 1), (.int (-1))] h0 (fun v h L => v = none ∧ Fr n0 L ∧ h = h0) := by
  refine own_enter pn_2 (fun p e s m below meth c s₁ hx hby hml hown hnm hret hlk hZ X0 e0 => ?_)
  have N0 := Fr.nil n0
  have K0 := Keep.refl h0 []
  rw [ef_28_RII m _ _ _]
  refine g_aloadN X0 hx (hb hby d28_0) rfl rfl ?_
  refine g_nonnullYes X0 hx 5 (hb hby d28_1) (by decide) (by decide) ?_
  refine g_iloadN X0 hx (hb hby d28_5) rfl ?_
  refine g_ifYes X0 hx 14 (hb hby d28_6) ((if0 _ _).trans (flt ((by decide) : ¬ ((1 : Int32) < (0 : Int32)))).2.1) (by decide) (by decide) ?_
  refine g_aloadN X0 hx (hb hby d28_14) rfl rfl ?_
  refine g_iloadN X0 hx (hb hby d28_15) rfl ?_
  refine g_S X0 hx hZ hown (lk27 hw) (rm_countAbove_129 hw a1 a2 a3 a4 a5 h0 n0 Z0 O_a1) e0 (hb hby d28_16) hml.symm rfl rfl (Nat.le_refl _) (by decide) (fun v1 T1 L1 X1 q1 => ?_)
  obtain ⟨rfl, M1, e1⟩ := q1
  have N1 := Fr.app N0 M1
  exact own_retV X1 hx hret hlk (hb hby d28_19) (by decide) (by decide) ⟨rfl, N1, e1⟩
theorem rm_addIfAbsent_144 (hw : HW a0 Z) (a1 a2 : Addr) (a3 a4 : Addr) (i1 i2 : Int32) (a5 a6 : Addr) (a7 a8 : Addr) (i3 : Int32) (a9 a10 : Addr) (a11 a12 : Addr) (i5 : Int32) (h0 : Heap) (n0 : Nat) (Z0 : n0 ≤ h0.size) (O_a1 : R_MP Z h0 a1 .null (.ref a4) (.int 3) (.int i1)) (O_a2 : R_IN Z h0 a2 (.int i2)) (O_a4 : R_ND Z h0 a4 (.ref a5) (.ref a6) (.ref a7) (.ref a8) .null (.int 1)) (O_a5 : R_IN Z h0 a5 (.int i3)) (O_a7 : R_ND Z h0 a7 (.ref a9) (.ref a10) .null .null (.ref a4) (.int (-2147483648))) (O_a8 : R_ND Z h0 a8 (.ref a11) (.ref a12) .null .null (.ref a4) (.int (-2147483648))) (O_a11 : R_IN Z h0 a11 (.int i5)) (hk0 : ¬ (i2 < i3)) (hk1 : ¬ (i2 = i3)) (hk2 : ¬ (i2 < i5)) (hk3 : i2 = i5) :
    CtrH l Y19 B18 15 (some F1_) [(71, 122, 210, 0), (137, 195, 210, 0), (210, 212, 210, 0)] (rmk 4 0 0 53) Z #[(.ref a1), (.ref a2), (.ref a3)] h0 (fun v h L => v = some (.ref a8) ∧ Fr n0 L ∧ h = h0) := by
  refine own_enterH pn_2 (fun p e s m below meth c s₁ hx hby hml hown hnm hret hlk hZ X0 e0 => ?_)
  have D {q : Nat} {r} (z : decode B18 q = r) : decode c.code q = r := hb hby z
  have N0 := Fr.nil n0
  have K0 := Keep.refl h0 []
  rw [ef_33_RRR m _ _ _]
  refine g_aloadN X0 hx (D d33_0) rfl rfl ?_
  refine g_getF X0 hx hZ hown (Wd25 hw) e0 O_a1.2.2.1 (D d33_1) (fun T1 X1 e1 => ?_)
  refine g_nonnullYes X1 hx 50 (D d33_4) (by decide) (by decide) ?_
  refine g_null X1 hx (D d33_50) ?_
  refine g_astoreN X1 hx #[vr a1, vr a2, vr a3, vn, vu, vu, vu, vu, vu, vu, vu, vu, vu, vu, vu] (D d33_51) rfl rfl ?_
  refine g_iconst X1 hx (0 : Int32) (D d33_52) (by decide) ?_
  refine g_istore X1 hx #[vr a1, vr a2, vr a3, vn, vi 0, vu, vu, vu, vu, vu, vu, vu, vu, vu, vu] (D d33_53) rfl ?_
  refine g_aloadN X1 hx (D d33_55) rfl rfl ?_
  refine g_getF X1 hx hZ hown (Wd25 hw) e1 O_a1.2.2.1 (D d33_56) (fun T2 X2 e2 => ?_)
  refine g_astore X2 hx #[vr a1, vr a2, vr a3, vn, vi 0, vr a4, vu, vu, vu, vu, vu, vu, vu, vu, vu] (D d33_59) rfl rfl ?_
  refine g_aload X2 hx (D d33_61) rfl rfl ?_
  refine g_getF X2 hx hZ hown (Wd100 hw) e2 O_a4.2.1 (D d33_63) (fun T3 X3 e3 => ?_)
  refine g_astore X3 hx #[vr a1, vr a2, vr a3, vn, vi 0, vr a4, vr a5, vu, vu, vu, vu, vu, vu, vu, vu] (D d33_66) rfl rfl ?_
  refine g_null X3 hx (D d33_68) ?_
  refine g_astore X3 hx #[vr a1, vr a2, vr a3, vn, vi 0, vr a4, vr a5, vn, vu, vu, vu, vu, vu, vu, vu] (D d33_69) rfl rfl ?_
  refine g_aload X3 hx (D d33_71) rfl rfl ?_
  refine g_nullNo X3 hx (D d33_73) ?_
  refine g_aload X3 hx (D d33_76) rfl rfl ?_
  refine g_getF X3 hx hZ hown (Wd101 hw) e3 O_a4.2.2.2.1 (D d33_78) (fun T4 X4 e4 => ?_)
  refine g_astore X4 hx #[vr a1, vr a2, vr a3, vn, vi 0, vr a4, vr a5, vn, vr a7, vu, vu, vu, vu, vu, vu] (D d33_81) rfl rfl ?_
  refine g_aload X4 hx (D d33_83) rfl rfl ?_
  refine g_getF X4 hx hZ hown (Wd103 hw) e4 O_a4.2.2.2.2.1 (D d33_85) (fun T5 X5 e5 => ?_)
  refine g_astore X5 hx #[vr a1, vr a2, vr a3, vn, vi 0, vr a4, vr a5, vn, vr a7, vr a8, vu, vu, vu, vu, vu] (D d33_88) rfl rfl ?_
  refine g_aload X5 hx (D d33_90) rfl rfl ?_
  refine g_S X5 hx hZ hown (lk6 hw) (rm_keyOf_44 hw a7 a9 a10 a4 h0 n0 Z0 O_a7) e5 (D d33_92) hml.symm rfl rfl (Nat.le_refl _) (by decide) (fun v6 T6 L6 X6 q6 => ?_)
  obtain ⟨rfl, M6, e6⟩ := q6
  have N6 := Fr.app N0 M6
  refine g_astore X6 hx #[vr a1, vr a2, vr a3, vn, vi 0, vr a4, vr a5, vn, vr a7, vr a8, vr a9, vu, vu, vu, vu] (D d33_95) rfl rfl ?_
  refine g_aload X6 hx (D d33_97) rfl rfl ?_
  refine g_S X6 hx hZ hown (lk6 hw) (rm_keyOf_44 hw a8 a11 a12 a4 h0 n0 Z0 O_a8) e6 (D d33_99) hml.symm rfl rfl (Nat.le_refl _) (by decide) (fun v7 T7 L7 X7 q7 => ?_)
  obtain ⟨rfl, M7, e7⟩ := q7
  have N7 := Fr.app N6 M7
  refine g_astore X7 hx #[vr a1, vr a2, vr a3, vn, vi 0, vr a4, vr a5, vn, vr a7, vr a8, vr a9, vr a11, vu, vu, vu] (D d33_102) rfl rfl ?_
  refine g_aloadN X7 hx (D d33_104) rfl rfl ?_
  refine g_aloadN X7 hx (D d33_105) rfl rfl ?_
  refine g_aload X7 hx (D d33_106) rfl rfl ?_
  refine g_V X7 hx hZ hown (lk10 hw) (rm_compare_132 hw a1 a2 a5 a4 i1 i2 i3 h0 n0 Z0 O_a1 O_a2 O_a5 hk0 hk1) e7 O_a1.1 (D d33_108) hml.symm rfl rfl (Nat.le_refl _) (by decide) (fun v8 T8 L8 X8 q8 => ?_)
  obtain ⟨rfl, M8, e8⟩ := q8
  have N8 := Fr.app N7 M8
  refine g_istore X8 hx #[vr a1, vr a2, vr a3, vn, vi 0, vr a4, vr a5, vn, vr a7, vr a8, vr a9, vr a11, vi 1, vu, vu] (D d33_111) rfl ?_
  refine g_iload X8 hx (D d33_113) rfl ?_
  refine g_ifYes X8 hx 137 (D d33_115) ((if0 _ _).trans (feq ((by decide) : ¬ ((1 : Int32) = (0 : Int32)))).2) (by decide) (by decide) ?_
  refine g_aload X8 hx (D d33_137) rfl rfl ?_
  refine g_astoreN X8 hx #[vr a1, vr a2, vr a3, vr a4, vi 0, vr a4, vr a5, vn, vr a7, vr a8, vr a9, vr a11, vi 1, vu, vu] (D d33_139) rfl rfl ?_
  refine g_iload X8 hx (D d33_140) rfl ?_
  refine g_istore X8 hx #[vr a1, vr a2, vr a3, vr a4, vi 1, vr a4, vr a5, vn, vr a7, vr a8, vr a9, vr a11, vi 1, vu, vu] (D d33_142) rfl ?_
  refine g_iload X8 hx (D d33_144) rfl ?_
  refine g_ifYes X8 hx 155 (D d33_146) ((if0 _ _).trans (flt ((by decide) : ¬ ((1 : Int32) < (0 : Int32)))).2.1) (by decide) (by decide) ?_
  refine g_iload X8 hx (D d33_155) rfl ?_
  refine g_ifYes X8 hx 165 (D d33_157) ((if0 _ _).trans (flt ((by decide) : ¬ ((1 : Int32) < (0 : Int32)))).2.1) (by decide) (by decide) ?_
  refine g_aload X8 hx (D d33_165) rfl rfl ?_
  refine g_astore X8 hx #[vr a1, vr a2, vr a3, vr a4, vi 1, vr a8, vr a5, vn, vr a7, vr a8, vr a9, vr a11, vi 1, vu, vu] (D d33_167) rfl rfl ?_
  refine g_iload X8 hx (D d33_169) rfl ?_
  refine g_ifYes X8 hx 179 (D d33_171) ((if0 _ _).trans (flt ((by decide) : ¬ ((1 : Int32) < (0 : Int32)))).2.1) (by decide) (by decide) ?_
  refine g_aload X8 hx (D d33_179) rfl rfl ?_
  refine g_astore X8 hx #[vr a1, vr a2, vr a3, vr a4, vi 1, vr a8, vr a11, vn, vr a7, vr a8, vr a9, vr a11, vi 1, vu, vu] (D d33_181) rfl rfl ?_
  refine g_goto X8 hx 71 (D d33_183) (by decide) (by decide) ?_
  refine g_aload X8 hx (D d33_71) rfl rfl ?_
  refine g_nullNo X8 hx (D d33_73) ?_
  refine g_aload X8 hx (D d33_76) rfl rfl ?_
  refine g_getF X8 hx hZ hown (Wd101 hw) e8 O_a8.2.2.2.1 (D d33_78) (fun T9 X9 e9 => ?_)
  refine g_astore X9 hx #[vr a1, vr a2, vr a3, vr a4, vi 1, vr a8, vr a11, vn, vn, vr a8, vr a9, vr a11, vi 1, vu, vu] (D d33_81) rfl rfl ?_
  refine g_aload X9 hx (D d33_83) rfl rfl ?_
  refine g_getF X9 hx hZ hown (Wd103 hw) e9 O_a8.2.2.2.2.1 (D d33_85) (fun T10 X10 e10 => ?_)
  refine g_astore X10 hx #[vr a1, vr a2, vr a3, vr a4, vi 1, vr a8, vr a11, vn, vn, vn, vr a9, vr a11, vi 1, vu, vu] (D d33_88) rfl rfl ?_
  refine g_aload X10 hx (D d33_90) rfl rfl ?_
  refine g_S X10 hx hZ hown (lk6 hw) (rm_keyOf_12 hw  h0 n0 Z0 ) e10 (D d33_92) hml.symm rfl rfl (Nat.le_refl _) (by decide) (fun v11 T11 L11 X11 q11 => ?_)
  obtain ⟨rfl, M11, e11⟩ := q11
  have N11 := Fr.app N8 M11
  refine g_astore X11 hx #[vr a1, vr a2, vr a3, vr a4, vi 1, vr a8, vr a11, vn, vn, vn, vn, vr a11, vi 1, vu, vu] (D d33_95) rfl rfl ?_
  refine g_aload X11 hx (D d33_97) rfl rfl ?_
  refine g_S X11 hx hZ hown (lk6 hw) (rm_keyOf_12 hw  h0 n0 Z0 ) e11 (D d33_99) hml.symm rfl rfl (Nat.le_refl _) (by decide) (fun v12 T12 L12 X12 q12 => ?_)
  obtain ⟨rfl, M12, e12⟩ := q12
  have N12 := Fr.app N11 M12
  refine g_astore X12 hx #[vr a1, vr a2, vr a3, vr a4, vi 1, vr a8, vr a11, vn, vn, vn, vn, vn, vi 1, vu, vu] (D d33_102) rfl rfl ?_
  refine g_aloadN X12 hx (D d33_104) rfl rfl ?_
  refine g_aloadN X12 hx (D d33_105) rfl rfl ?_
  refine g_aload X12 hx (D d33_106) rfl rfl ?_
  refine g_V X12 hx hZ hown (lk10 hw) (rm_compare_126 hw a1 a2 a11 a4 i1 i2 i5 h0 n0 Z0 O_a1 O_a2 O_a11 hk2 hk3) e12 O_a1.1 (D d33_108) hml.symm rfl rfl (Nat.le_refl _) (by decide) (fun v13 T13 L13 X13 q13 => ?_)
  obtain ⟨rfl, M13, e13⟩ := q13
  have N13 := Fr.app N12 M13
  refine g_istore X13 hx #[vr a1, vr a2, vr a3, vr a4, vi 1, vr a8, vr a11, vn, vn, vn, vn, vn, vi 0, vu, vu] (D d33_111) rfl ?_
  refine g_iload X13 hx (D d33_113) rfl ?_
  refine g_ifNo X13 hx (D d33_115) ((if0 _ _).trans (teq ((by decide) : (0 : Int32) = (0 : Int32))).2) ?_
  refine g_aload X13 hx (D d33_118) rfl rfl ?_
  refine g_astore X13 hx #[vr a1, vr a2, vr a3, vr a4, vi 1, vr a8, vr a11, vn, vn, vn, vn, vn, vi 0, vr a8, vu] (D d33_120) rfl rfl ?_
  refine g_aload X13 hx (D d33_122) rfl rfl ?_
  refine g_nonnullNo X13 hx (D d33_124) ?_
  refine g_aloadN X13 hx (D d33_127) rfl rfl ?_
  refine g_iload X13 hx (D d33_128) rfl ?_
  refine g_iconst X13 hx (-1 : Int32) (D d33_130) (by decide) ?_
  refine g_S X13 hx hZ hown (lk20 hw) (rm_countPlace_145 hw a4 a5 a6 a7 a8 h0 n0 Z0 O_a4) e13 (D d33_131) hml.symm rfl rfl (Nat.le_refl _) (by decide) (fun v14 T14 L14 X14 q14 => ?_)
  obtain ⟨rfl, M14, e14⟩ := q14
  have N14 := Fr.app N13 M14
  refine g_aload X14 hx (D d33_134) rfl rfl ?_
  exact own_retA X14 hx hret hlk rfl rfl (D d33_136) (by decide) (by decide) ⟨rfl, N14, e14⟩
theorem rm_put_143 (hw : HW a0 Z) (a1 a2 : Addr) (a3 a4 : Addr) (i1 i2 : Int32) (a5 a6 : Addr) (a7 a8 : Addr) (i3 : Int32) (a9 a10 : Addr) (a11 a12 : Addr) (i5 : Int32) (h0 : Heap) (n0 : Nat) (Z0 : n0 ≤ h0.size) (O_a1 : R_MP Z h0 a1 .null (.ref a4) (.int 3) (.int i1)) (O_a2 : R_IN Z h0 a2 (.int i2)) (O_a4 : R_ND Z h0 a4 (.ref a5) (.ref a6) (.ref a7) (.ref a8) .null (.int 1)) (O_a5 : R_IN Z h0 a5 (.int i3)) (O_a7 : R_ND Z h0 a7 (.ref a9) (.ref a10) .null .null (.ref a4) (.int (-2147483648))) (O_a8 : R_ND Z h0 a8 (.ref a11) (.ref a12) .null .null (.ref a4) (.int (-2147483648))) (O_a11 : R_IN Z h0 a11 (.int i5)) (g_a8 : n0 ≤ a8) (hk0 : ¬ (i2 < i3)) (hk1 : ¬ (i2 = i3)) (hk2 : ¬ (i2 < i5)) (hk3 : i2 = i5) :
    Ctr l Y20 B19 4 (some F3_) [] (rmk 5 0 0 79) Z #[(.ref a1), (.ref a2), (.ref a3)] h0 (fun v h L => v = some (.ref a12) ∧ Fr n0 L ∧ Keep h0 h [a8] ∧ R_ND Z h a8 (.ref a11) (.ref a3) .null .null (.ref a4) (.int (-2147483648))) := by
  refine own_enter pn_2 (fun p e s m below meth c s₁ hx hby hml hown hnm hret hlk hZ X0 e0 => ?_)
  have N0 := Fr.nil n0
  have K0 := Keep.refl h0 [a8]
  rw [ef_7_RRR m _ _ _]
  refine g_aloadN X0 hx (hb hby d7_0) rfl rfl ?_
  refine g_aloadN X0 hx (hb hby d7_1) rfl rfl ?_
  refine g_aloadN X0 hx (hb hby d7_2) rfl rfl ?_
  refine g_PH X0 hx hZ hown (lk18 hw) (rm_addIfAbsent_144 hw a1 a2 a3 a4 i1 i2 a5 a6 a7 a8 i3 a9 a10 a11 a12 i5 h0 n0 Z0 O_a1 O_a2 O_a4 O_a5 O_a7 O_a8 O_a11 hk0 hk1 hk2 hk3) e0 O_a1.1 (hb hby d7_3) hml.symm rfl rfl (Nat.le_refl _) (by decide) (fun v1 T1 L1 X1 q1 => ?_)
  obtain ⟨rfl, M1, e1⟩ := q1
  have N1 := Fr.app N0 M1
  refine g_astoreN X1 hx #[vr a1, vr a2, vr a3, vr a8] (hb hby d7_6) rfl rfl ?_
  refine g_aloadN X1 hx (hb hby d7_7) rfl rfl ?_
  refine g_nonnullYes X1 hx 15 (hb hby d7_8) (by decide) (by decide) ?_
  refine g_aloadN X1 hx (hb hby d7_15) rfl rfl ?_
  refine g_aloadN X1 hx (hb hby d7_16) rfl rfl ?_
  refine g_aloadN X1 hx (hb hby d7_17) rfl rfl ?_
  refine g_V X1 hx hZ hown (lk22 hw) (rm_replaceValue_66 hw a1 a8 a3 a11 a12 a4 h0 n0 Z0 O_a8 g_a8) e1 O_a1.1 (hb hby d7_18) hml.symm rfl rfl (Nat.le_refl _) (by decide) (fun v2 T2 L2 X2 q2 => ?_)
  obtain ⟨rfl, M2, Kc2, Rk2_0⟩ := q2
  have N2 := Fr.app N1 M2
  have K2 := Keep.trans K0 Kc2 (own_memc (mw 0 rfl) own_memn)
  exact own_retA X2 hx hret hlk rfl rfl (hb hby d7_21) (by decide) (by decide) (by rw [(rfl : T2.heap = T2.heap)]; exact ⟨rfl, N2, K2, Rk2_0⟩)
theorem rm_balanceAfterInsert_148 (hw : HW a0 Z) (a1 a2 a3 : Addr) (i1 : Int32) (a4 a5 : Addr) (a6 a7 : Addr) (a8 a9 : Addr) (i2 : Int32) (a10 a11 : Addr) (i3 : Int32) (a12 a13 : Addr) (i4 : Int32) (h0 : Heap) (n0 : Nat) (Z0 : n0 ≤ h0.size) (O_a1 : R_MP Z h0 a1 .null (.ref a3) (.int 4) (.int i1)) (O_a2 : R_ND Z h0 a2 (.ref a4) (.ref a5) .null .null (.ref a6) (.int (-2147483648))) (O_a3 : R_ND Z h0 a3 (.ref a7) (.ref a8) (.ref a9) (.ref a6) .null (.int 1)) (O_a6 : R_ND Z h0 a6 (.ref a10) (.ref a11) .null (.ref a2) (.ref a3) (.int (-2147483648))) (O_a9 : R_ND Z h0 a9 (.ref a12) (.ref a13) .null .null (.ref a3) (.int (-2147483648))) (ne_a1_a3 : a1 ≠ a3) (ne_a1_a6 : a1 ≠ a6) (ne_a1_a9 : a1 ≠ a9) (ne_a3_a6 : a3 ≠ a6) (ne_a3_a9 : a3 ≠ a9) (ne_a6_a9 : a6 ≠ a9) (g_a3 : n0 ≤ a3) (g_a6 : n0 ≤ a6) (g_a9 : n0 ≤ a9) (hk0 : ¬ (i2 < i3)) (hk1 : ¬ (i2 = i3)) (hk2 : ¬ (i2 < i4)) (hk3 : ¬ (i2 = i4)) :
    Ctr l Y18 B17 6 none [] (rmk 1 0 0 13) Z #[(.ref a1), (.ref a2)] h0 (fun v h L => v = none ∧ Fr n0 L ∧ Keep h0 h [a3, a6, a9] ∧ R_ND Z h a3 (.ref a7) (.ref a8) (.ref a9) (.ref a6) .null (.int 1) ∧ R_ND Z h a6 (.ref a10) (.ref a11) .null (.ref a2) (.ref a3) (.int 0) ∧ R_ND Z h a9 (.ref a12) (.ref a13) .null .null (.ref a3) (.int 0)) := by
  refine own_enter pn_2 (fun p e s m below meth c s₁ hx hby hml hown hnm hret hlk hZ X0 e0 => ?_)
  have D {q : Nat} {r} (z : decode B17 q = r) : decode c.code q = r := hb hby z
  have N0 := Fr.nil n0
  have K0 := Keep.refl h0 [a3, a6, a9]
  rw [ef_17_RR m _ _]
  refine g_aloadN X0 hx (D d17_0) rfl rfl ?_
  refine g_astoreN X0 hx #[vr a1, vr a2, vr a2, vu, vu, vu] (D d17_1) rfl rfl ?_
  refine g_aloadN X0 hx (D d17_2) rfl rfl ?_
  refine g_getF X0 hx hZ hown (Wd117 hw) e0 O_a2.2.2.2.2.2.1 (D d17_3) (fun T1 X1 e1 => ?_)
  refine g_S X1 hx hZ hown (lk15 hw) (rm_isRed_72 hw a6 a10 a11 a2 a3 h0 n0 Z0 O_a6) e1 (D d17_6) hml.symm rfl rfl (Nat.le_refl _) (by decide) (fun v2 T2 L2 X2 q2 => ?_)
  obtain ⟨rfl, M2, e2⟩ := q2
  have N2 := Fr.app N0 M2
  refine g_ifNo X2 hx (D d17_9) ((if0 _ _).trans (feq ((by decide) : ¬ ((1 : Int32) = (0 : Int32)))).1) ?_
  refine g_aloadN X2 hx (D d17_12) rfl rfl ?_
  refine g_getF X2 hx hZ hown (Wd117 hw) e2 O_a2.2.2.2.2.2.1 (D d17_13) (fun T3 X3 e3 => ?_)
  refine g_astoreN X3 hx #[vr a1, vr a2, vr a2, vr a6, vu, vu] (D d17_16) rfl rfl ?_
  refine g_aloadN X3 hx (D d17_17) rfl rfl ?_
  refine g_getF X3 hx hZ hown (Wd117 hw) e3 O_a6.2.2.2.2.2.1 (D d17_18) (fun T4 X4 e4 => ?_)
  refine g_astore X4 hx #[vr a1, vr a2, vr a2, vr a6, vr a3, vu] (D d17_21) rfl rfl ?_
  refine g_aloadN X4 hx (D d17_23) rfl rfl ?_
  refine g_aload X4 hx (D d17_24) rfl rfl ?_
  refine g_getF X4 hx hZ hown (Wd101 hw) e4 O_a3.2.2.2.1 (D d17_26) (fun T5 X5 e5 => ?_)
  have c29_6 : ¬ (a6 = a9) := ne_a6_a9
  refine g_acmp X5 hx 110 false rfl rfl (D d17_29) (decide_eq_false fun q => c29_6 (Value.ref.inj q)) (by decide) (by decide) ?_
  refine g_aload X5 hx (D d17_110) rfl rfl ?_
  refine g_getF X5 hx hZ hown (Wd101 hw) e5 O_a3.2.2.2.1 (D d17_112) (fun T7 X7 e7 => ?_)
  refine g_astore X7 hx #[vr a1, vr a2, vr a2, vr a6, vr a3, vr a9] (D d17_115) rfl rfl ?_
  refine g_aload X7 hx (D d17_117) rfl rfl ?_
  refine g_S X7 hx hZ hown (lk15 hw) (rm_isRed_120 hw a9 a12 a13 a3 h0 n0 Z0 O_a9) e7 (D d17_119) hml.symm rfl rfl (Nat.le_refl _) (by decide) (fun v8 T8 L8 X8 q8 => ?_)
  obtain ⟨rfl, M8, e8⟩ := q8
  have N8 := Fr.app N2 M8
  refine g_ifNo X8 hx (D d17_122) ((if0 _ _).trans (feq ((by decide) : ¬ ((1 : Int32) = (0 : Int32)))).1) ?_
  refine g_aloadN X8 hx (D d17_125) rfl rfl ?_
  refine g_iconst X8 hx (0 : Int32) (D d17_126) (by decide) ?_
  refine g_S X8 hx hZ hown (lk16 hw) (rm_setRed_101 hw a6 a10 a11 a2 a3 h0 n0 Z0 O_a6 g_a6) e8 (D d17_127) hml.symm rfl rfl (Nat.le_refl _) (by decide) (fun v9 T9 L9 X9 q9 => ?_)
  obtain ⟨rfl, M9, Kc9, Rk9_0⟩ := q9
  have N9 := Fr.app N8 M9
  have O_a1_9 := R_MP_keep O_a1 Kc9 (own_nin ne_a1_a6 nl)
  have O_a3_9 := R_ND_keep O_a3 Kc9 (own_nin ne_a3_a6 nl)
  have O_a9_9 := R_ND_keep O_a9 Kc9 (own_nin ne_a6_a9.symm nl)
  have K9 := Keep.trans K0 Kc9 (own_memc (mw 1 rfl) own_memn)
  have Z9 : n0 ≤ T9.heap.size := Nat.le_trans Z0 Kc9.1
  refine g_aload X9 hx (D d17_130) rfl rfl ?_
  refine g_iconst X9 hx (0 : Int32) (D d17_132) (by decide) ?_
  refine g_S X9 hx hZ hown (lk16 hw) (rm_setRed_121 hw a9 a12 a13 a3 T9.heap n0 Z9 O_a9_9 g_a9) (rfl : T9.heap = T9.heap) (D d17_133) hml.symm rfl rfl (Nat.le_refl _) (by decide) (fun v10 T10 L10 X10 q10 => ?_)
  obtain ⟨rfl, M10, Kc10, Rk10_0⟩ := q10
  have N10 := Fr.app N9 M10
  have O_a1_10 := R_MP_keep O_a1_9 Kc10 (own_nin ne_a1_a9 nl)
  have O_a3_10 := R_ND_keep O_a3_9 Kc10 (own_nin ne_a3_a9 nl)
  have O_a6_10 := R_ND_keep Rk9_0 Kc10 (own_nin ne_a6_a9 nl)
  have K10 := Keep.trans K9 Kc10 (own_memc (mw 2 rfl) own_memn)
  have Z10 : n0 ≤ T10.heap.size := Nat.le_trans Z9 Kc10.1
  refine g_aload X10 hx (D d17_136) rfl rfl ?_
  refine g_iconst X10 hx (1 : Int32) (D d17_138) (by decide) ?_
  refine g_S X10 hx hZ hown (lk16 hw) (rm_setRed_141 hw a3 a7 a8 a9 a6 T10.heap n0 Z10 O_a3_10 g_a3) (rfl : T10.heap = T10.heap) (D d17_139) hml.symm rfl rfl (Nat.le_refl _) (by decide) (fun v11 T11 L11 X11 q11 => ?_)
  obtain ⟨rfl, M11, Kc11, Rk11_0⟩ := q11
  have N11 := Fr.app N10 M11
  have O_a1_11 := R_MP_keep O_a1_10 Kc11 (own_nin ne_a1_a3 nl)
  have O_a6_11 := R_ND_keep O_a6_10 Kc11 (own_nin ne_a3_a6.symm nl)
  have O_a9_11 := R_ND_keep Rk10_0 Kc11 (own_nin ne_a3_a9.symm nl)
  have K11 := Keep.trans K10 Kc11 (own_memc (mw 0 rfl) own_memn)
  have Z11 : n0 ≤ T11.heap.size := Nat.le_trans Z10 Kc11.1
  refine g_aload X11 hx (D d17_142) rfl rfl ?_
  refine g_astoreN X11 hx #[vr a1, vr a2, vr a3, vr a6, vr a3, vr a9] (D d17_144) rfl rfl ?_
  refine g_goto X11 hx 185 (D d17_145) (by decide) (by decide) ?_
  refine g_goto X11 hx 2 (D d17_185) (by decide) (by decide) ?_
  refine g_aloadN X11 hx (D d17_2) rfl rfl ?_
  refine g_getF X11 hx hZ hown (Wd117 hw) (rfl : T11.heap = T11.heap) Rk11_0.2.2.2.2.2.1 (D d17_3) (fun T12 X12 e12 => ?_)
  refine g_S X12 hx hZ hown (lk15 hw) (rm_isRed_50 hw  T11.heap n0 Z11 ) e12 (D d17_6) hml.symm rfl rfl (Nat.le_refl _) (by decide) (fun v13 T13 L13 X13 q13 => ?_)
  obtain ⟨rfl, M13, e13⟩ := q13
  have N13 := Fr.app N11 M13
  refine g_ifYes X13 hx 188 (D d17_9) ((if0 _ _).trans (teq ((by decide) : (0 : Int32) = (0 : Int32))).1) (by decide) (by decide) ?_
  refine g_aloadN X13 hx (D d17_188) rfl rfl ?_
  refine g_getF X13 hx hZ hown (Wd25 hw) e13 O_a1_11.2.2.1 (D d17_189) (fun T14 X14 e14 => ?_)
  refine g_iconst X14 hx (0 : Int32) (D d17_192) (by decide) ?_
  refine g_S X14 hx hZ hown (lk16 hw) (rm_setRed_142 hw a3 a7 a8 a9 a6 T11.heap n0 Z11 Rk11_0 g_a3) e14 (D d17_193) hml.symm rfl rfl (Nat.le_refl _) (by decide) (fun v15 T15 L15 X15 q15 => ?_)
  obtain ⟨rfl, M15, Kc15, Rk15_0⟩ := q15
  have N15 := Fr.app N13 M15
  have O_a6_15 := R_ND_keep O_a6_11 Kc15 (own_nin ne_a3_a6.symm nl)
  have O_a9_15 := R_ND_keep O_a9_11 Kc15 (own_nin ne_a3_a9.symm nl)
  have K15 := Keep.trans K11 Kc15 (own_memc (mw 0 rfl) own_memn)
  exact own_retV X15 hx hret hlk (D d17_196) (by decide) (by decide) (by rw [(rfl : T15.heap = T15.heap)]; exact ⟨rfl, N15, K15, Rk15_0, O_a6_15, O_a9_15⟩)
theorem rm_addIfAbsent_147 (hw : HW a0 Z) (a1 a2 : Addr) (a3 a4 : Addr) (i1 i2 : Int32) (a5 a6 : Addr) (a7 a8 : Addr) (i3 : Int32) (a9 a10 : Addr) (a11 a12 : Addr) (i5 : Int32) (h0 : Heap) (n0 : Nat) (Z0 : n0 ≤ h0.size) (O_a1 : R_MP Z h0 a1 .null (.ref a4) (.int 3) (.int i1)) (O_a2 : R_IN Z h0 a2 (.int i2)) (O_a4 : R_ND Z h0 a4 (.ref a5) (.ref a6) (.ref a7) (.ref a8) .null (.int 1)) (O_a5 : R_IN Z h0 a5 (.int i3)) (O_a7 : R_ND Z h0 a7 (.ref a9) (.ref a10) .null .null (.ref a4) (.int (-2147483648))) (O_a8 : R_ND Z h0 a8 (.ref a11) (.ref a12) .null .null (.ref a4) (.int (-2147483648))) (O_a11 : R_IN Z h0 a11 (.int i5)) (ne_a1_a4 : a1 ≠ a4) (ne_a1_a7 : a1 ≠ a7) (ne_a1_a8 : a1 ≠ a8) (ne_a4_a7 : a4 ≠ a7) (ne_a4_a8 : a4 ≠ a8) (ne_a7_a8 : a7 ≠ a8) (g_a1 : n0 ≤ a1) (g_a4 : n0 ≤ a4) (g_a7 : n0 ≤ a7) (g_a8 : n0 ≤ a8) (hk0 : ¬ (i2 < i3)) (hk1 : ¬ (i2 = i3)) (hk2 : ¬ (i2 < i5)) (hk3 : ¬ (i2 = i5)) :
    CtrH l Y19 B18 15 (some F1_) [(71, 122, 210, 0), (137, 195, 210, 0), (210, 212, 210, 0)] (rmk 4 1 6 53) Z #[(.ref a1), (.ref a2), (.ref a3)] h0 (fun v h L => ∃ f1, v = some .null ∧ Fr n0 L ∧ Keep h0 h [a1, a4, a7, a8] ∧ h0.size ≤ f1 ∧ R_MP Z h a1 .null (.ref a4) (.int 4) (.int (i1 + (1 : Int32))) ∧ R_ND Z h a4 (.ref a5) (.ref a6) (.ref a7) (.ref a8) .null (.int 1) ∧ R_ND Z h a7 (.ref a9) (.ref a10) .null .null (.ref a4) (.int 0) ∧ R_ND Z h a8 (.ref a11) (.ref a12) .null (.ref f1) (.ref a4) (.int 0) ∧ R_ND Z h f1 (.ref a2) (.ref a3) .null .null (.ref a8) (.int (-2147483648))) := by
  refine own_enterH pn_2 (fun p e s m below meth c s₁ hx hby hml hown hnm hret hlk hZ X0 e0 => ?_)
  have D {q : Nat} {r} (z : decode B18 q = r) : decode c.code q = r := hb hby z
  have N0 := Fr.nil n0
  have K0 := Keep.refl h0 [a1, a4, a7, a8]
  rw [ef_33_RRR m _ _ _]
  refine g_aloadN X0 hx (D d33_0) rfl rfl ?_
  refine g_getF X0 hx hZ hown (Wd25 hw) e0 O_a1.2.2.1 (D d33_1) (fun T1 X1 e1 => ?_)
  refine g_nonnullYes X1 hx 50 (D d33_4) (by decide) (by decide) ?_
  refine g_null X1 hx (D d33_50) ?_
  refine g_astoreN X1 hx #[vr a1, vr a2, vr a3, vn, vu, vu, vu, vu, vu, vu, vu, vu, vu, vu, vu] (D d33_51) rfl rfl ?_
  refine g_iconst X1 hx (0 : Int32) (D d33_52) (by decide) ?_
  refine g_istore X1 hx #[vr a1, vr a2, vr a3, vn, vi 0, vu, vu, vu, vu, vu, vu, vu, vu, vu, vu] (D d33_53) rfl ?_
  refine g_aloadN X1 hx (D d33_55) rfl rfl ?_
  refine g_getF X1 hx hZ hown (Wd25 hw) e1 O_a1.2.2.1 (D d33_56) (fun T2 X2 e2 => ?_)
  refine g_astore X2 hx #[vr a1, vr a2, vr a3, vn, vi 0, vr a4, vu, vu, vu, vu, vu, vu, vu, vu, vu] (D d33_59) rfl rfl ?_
  refine g_aload X2 hx (D d33_61) rfl rfl ?_
  refine g_getF X2 hx hZ hown (Wd100 hw) e2 O_a4.2.1 (D d33_63) (fun T3 X3 e3 => ?_)
  refine g_astore X3 hx #[vr a1, vr a2, vr a3, vn, vi 0, vr a4, vr a5, vu, vu, vu, vu, vu, vu, vu, vu] (D d33_66) rfl rfl ?_
  refine g_null X3 hx (D d33_68) ?_
  refine g_astore X3 hx #[vr a1, vr a2, vr a3, vn, vi 0, vr a4, vr a5, vn, vu, vu, vu, vu, vu, vu, vu] (D d33_69) rfl rfl ?_
  refine g_aload X3 hx (D d33_71) rfl rfl ?_
  refine g_nullNo X3 hx (D d33_73) ?_
  refine g_aload X3 hx (D d33_76) rfl rfl ?_
  refine g_getF X3 hx hZ hown (Wd101 hw) e3 O_a4.2.2.2.1 (D d33_78) (fun T4 X4 e4 => ?_)
  refine g_astore X4 hx #[vr a1, vr a2, vr a3, vn, vi 0, vr a4, vr a5, vn, vr a7, vu, vu, vu, vu, vu, vu] (D d33_81) rfl rfl ?_
  refine g_aload X4 hx (D d33_83) rfl rfl ?_
  refine g_getF X4 hx hZ hown (Wd103 hw) e4 O_a4.2.2.2.2.1 (D d33_85) (fun T5 X5 e5 => ?_)
  refine g_astore X5 hx #[vr a1, vr a2, vr a3, vn, vi 0, vr a4, vr a5, vn, vr a7, vr a8, vu, vu, vu, vu, vu] (D d33_88) rfl rfl ?_
  refine g_aload X5 hx (D d33_90) rfl rfl ?_
  refine g_S X5 hx hZ hown (lk6 hw) (rm_keyOf_44 hw a7 a9 a10 a4 h0 n0 Z0 O_a7) e5 (D d33_92) hml.symm rfl rfl (Nat.le_refl _) (by decide) (fun v6 T6 L6 X6 q6 => ?_)
  obtain ⟨rfl, M6, e6⟩ := q6
  have N6 := Fr.app N0 M6
  refine g_astore X6 hx #[vr a1, vr a2, vr a3, vn, vi 0, vr a4, vr a5, vn, vr a7, vr a8, vr a9, vu, vu, vu, vu] (D d33_95) rfl rfl ?_
  refine g_aload X6 hx (D d33_97) rfl rfl ?_
  refine g_S X6 hx hZ hown (lk6 hw) (rm_keyOf_44 hw a8 a11 a12 a4 h0 n0 Z0 O_a8) e6 (D d33_99) hml.symm rfl rfl (Nat.le_refl _) (by decide) (fun v7 T7 L7 X7 q7 => ?_)
  obtain ⟨rfl, M7, e7⟩ := q7
  have N7 := Fr.app N6 M7
  refine g_astore X7 hx #[vr a1, vr a2, vr a3, vn, vi 0, vr a4, vr a5, vn, vr a7, vr a8, vr a9, vr a11, vu, vu, vu] (D d33_102) rfl rfl ?_
  refine g_aloadN X7 hx (D d33_104) rfl rfl ?_
  refine g_aloadN X7 hx (D d33_105) rfl rfl ?_
  refine g_aload X7 hx (D d33_106) rfl rfl ?_
  refine g_V X7 hx hZ hown (lk10 hw) (rm_compare_132 hw a1 a2 a5 a4 i1 i2 i3 h0 n0 Z0 O_a1 O_a2 O_a5 hk0 hk1) e7 O_a1.1 (D d33_108) hml.symm rfl rfl (Nat.le_refl _) (by decide) (fun v8 T8 L8 X8 q8 => ?_)
  obtain ⟨rfl, M8, e8⟩ := q8
  have N8 := Fr.app N7 M8
  refine g_istore X8 hx #[vr a1, vr a2, vr a3, vn, vi 0, vr a4, vr a5, vn, vr a7, vr a8, vr a9, vr a11, vi 1, vu, vu] (D d33_111) rfl ?_
  refine g_iload X8 hx (D d33_113) rfl ?_
  refine g_ifYes X8 hx 137 (D d33_115) ((if0 _ _).trans (feq ((by decide) : ¬ ((1 : Int32) = (0 : Int32)))).2) (by decide) (by decide) ?_
  refine g_aload X8 hx (D d33_137) rfl rfl ?_
  refine g_astoreN X8 hx #[vr a1, vr a2, vr a3, vr a4, vi 0, vr a4, vr a5, vn, vr a7, vr a8, vr a9, vr a11, vi 1, vu, vu] (D d33_139) rfl rfl ?_
  refine g_iload X8 hx (D d33_140) rfl ?_
  refine g_istore X8 hx #[vr a1, vr a2, vr a3, vr a4, vi 1, vr a4, vr a5, vn, vr a7, vr a8, vr a9, vr a11, vi 1, vu, vu] (D d33_142) rfl ?_
  refine g_iload X8 hx (D d33_144) rfl ?_
  refine g_ifYes X8 hx 155 (D d33_146) ((if0 _ _).trans (flt ((by decide) : ¬ ((1 : Int32) < (0 : Int32)))).2.1) (by decide) (by decide) ?_
  refine g_iload X8 hx (D d33_155) rfl ?_
  refine g_ifYes X8 hx 165 (D d33_157) ((if0 _ _).trans (flt ((by decide) : ¬ ((1 : Int32) < (0 : Int32)))).2.1) (by decide) (by decide) ?_
  refine g_aload X8 hx (D d33_165) rfl rfl ?_
  refine g_astore X8 hx #[vr a1, vr a2, vr a3, vr a4, vi 1, vr a8, vr a5, vn, vr a7, vr a8, vr a9, vr a11, vi 1, vu, vu] (D d33_167) rfl rfl ?_
  refine g_iload X8 hx (D d33_169) rfl ?_
  refine g_ifYes X8 hx 179 (D d33_171) ((if0 _ _).trans (flt ((by decide) : ¬ ((1 : Int32) < (0 : Int32)))).2.1) (by decide) (by decide) ?_
  refine g_aload X8 hx (D d33_179) rfl rfl ?_
  refine g_astore X8 hx #[vr a1, vr a2, vr a3, vr a4, vi 1, vr a8, vr a11, vn, vr a7, vr a8, vr a9, vr a11, vi 1, vu, vu] (D d33_181) rfl rfl ?_
  refine g_goto X8 hx 71 (D d33_183) (by decide) (by decide) ?_
  refine g_aload X8 hx (D d33_71) rfl rfl ?_
  refine g_nullNo X8 hx (D d33_73) ?_
  refine g_aload X8 hx (D d33_76) rfl rfl ?_
  refine g_getF X8 hx hZ hown (Wd101 hw) e8 O_a8.2.2.2.1 (D d33_78) (fun T9 X9 e9 => ?_)
  refine g_astore X9 hx #[vr a1, vr a2, vr a3, vr a4, vi 1, vr a8, vr a11, vn, vn, vr a8, vr a9, vr a11, vi 1, vu, vu] (D d33_81) rfl rfl ?_
  refine g_aload X9 hx (D d33_83) rfl rfl ?_
  refine g_getF X9 hx hZ hown (Wd103 hw) e9 O_a8.2.2.2.2.1 (D d33_85) (fun T10 X10 e10 => ?_)
  refine g_astore X10 hx #[vr a1, vr a2, vr a3, vr a4, vi 1, vr a8, vr a11, vn, vn, vn, vr a9, vr a11, vi 1, vu, vu] (D d33_88) rfl rfl ?_
  refine g_aload X10 hx (D d33_90) rfl rfl ?_
  refine g_S X10 hx hZ hown (lk6 hw) (rm_keyOf_12 hw  h0 n0 Z0 ) e10 (D d33_92) hml.symm rfl rfl (Nat.le_refl _) (by decide) (fun v11 T11 L11 X11 q11 => ?_)
  obtain ⟨rfl, M11, e11⟩ := q11
  have N11 := Fr.app N8 M11
  refine g_astore X11 hx #[vr a1, vr a2, vr a3, vr a4, vi 1, vr a8, vr a11, vn, vn, vn, vn, vr a11, vi 1, vu, vu] (D d33_95) rfl rfl ?_
  refine g_aload X11 hx (D d33_97) rfl rfl ?_
  refine g_S X11 hx hZ hown (lk6 hw) (rm_keyOf_12 hw  h0 n0 Z0 ) e11 (D d33_99) hml.symm rfl rfl (Nat.le_refl _) (by decide) (fun v12 T12 L12 X12 q12 => ?_)
  obtain ⟨rfl, M12, e12⟩ := q12
  have N12 := Fr.app N11 M12
  refine g_astore X12 hx #[vr a1, vr a2, vr a3, vr a4, vi 1, vr a8, vr a11, vn, vn, vn, vn, vn, vi 1, vu, vu] (D d33_102) rfl rfl ?_
  refine g_aloadN X12 hx (D d33_104) rfl rfl ?_
  refine g_aloadN X12 hx (D d33_105) rfl rfl ?_
  refine g_aload X12 hx (D d33_106) rfl rfl ?_
  refine g_V X12 hx hZ hown (lk10 hw) (rm_compare_132 hw a1 a2 a11 a4 i1 i2 i5 h0 n0 Z0 O_a1 O_a2 O_a11 hk2 hk3) e12 O_a1.1 (D d33_108) hml.symm rfl rfl (Nat.le_refl _) (by decide) (fun v13 T13 L13 X13 q13 => ?_)
  obtain ⟨rfl, M13, e13⟩ := q13
  have N13 := Fr.app N12 M13
  refine g_istore X13 hx #[vr a1, vr a2, vr a3, vr a4, vi 1, vr a8, vr a11, vn, vn, vn, vn, vn, vi 1, vu, vu] (D d33_111) rfl ?_
  refine g_iload X13 hx (D d33_113) rfl ?_
  refine g_ifYes X13 hx 137 (D d33_115) ((if0 _ _).trans (feq ((by decide) : ¬ ((1 : Int32) = (0 : Int32)))).2) (by decide) (by decide) ?_
  refine g_aload X13 hx (D d33_137) rfl rfl ?_
  refine g_astoreN X13 hx #[vr a1, vr a2, vr a3, vr a8, vi 1, vr a8, vr a11, vn, vn, vn, vn, vn, vi 1, vu, vu] (D d33_139) rfl rfl ?_
  refine g_iload X13 hx (D d33_140) rfl ?_
  refine g_istore X13 hx #[vr a1, vr a2, vr a3, vr a8, vi 1, vr a8, vr a11, vn, vn, vn, vn, vn, vi 1, vu, vu] (D d33_142) rfl ?_
  refine g_iload X13 hx (D d33_144) rfl ?_
  refine g_ifYes X13 hx 155 (D d33_146) ((if0 _ _).trans (flt ((by decide) : ¬ ((1 : Int32) < (0 : Int32)))).2.1) (by decide) (by decide) ?_
  refine g_iload X13 hx (D d33_155) rfl ?_
  refine g_ifYes X13 hx 165 (D d33_157) ((if0 _ _).trans (flt ((by decide) : ¬ ((1 : Int32) < (0 : Int32)))).2.1) (by decide) (by decide) ?_
  refine g_aload X13 hx (D d33_165) rfl rfl ?_
  refine g_astore X13 hx #[vr a1, vr a2, vr a3, vr a8, vi 1, vn, vr a11, vn, vn, vn, vn, vn, vi 1, vu, vu] (D d33_167) rfl rfl ?_
  refine g_iload X13 hx (D d33_169) rfl ?_
  refine g_ifYes X13 hx 179 (D d33_171) ((if0 _ _).trans (flt ((by decide) : ¬ ((1 : Int32) < (0 : Int32)))).2.1) (by decide) (by decide) ?_
  refine g_aload X13 hx (D d33_179) rfl rfl ?_
  refine g_astore X13 hx #[vr a1, vr a2, vr a3, vr a8, vi 1, vn, vn, vn, vn, vn, vn, vn, vi 1, vu, vu] (D d33_181) rfl rfl ?_
  refine g_goto X13 hx 71 (D d33_183) (by decide) (by decide) ?_
  refine g_aload X13 hx (D d33_71) rfl rfl ?_
  refine g_nullYes X13 hx 186 (D d33_73) (by decide) (by decide) ?_
  refine g_aloadN X13 hx (D d33_186) rfl rfl ?_
  refine g_aloadN X13 hx (D d33_187) rfl rfl ?_
  refine g_aloadN X13 hx (D d33_188) rfl rfl ?_
  refine g_aloadN X13 hx (D d33_189) rfl rfl ?_
  refine g_V X13 hx hZ hown (lk13 hw) (rm_newNode_18 hw a1 a2 a3 a8 h0 n0 Z0 ) e13 O_a1.1 (D d33_190) hml.symm rfl rfl (Nat.le_refl _) (by decide) (fun v14 T14 L14 X14 q14 => ?_)
  obtain ⟨b14_0, rfl, M14, Kc14, zb14_0, Rk14_0⟩ := q14
  have N14 := Fr.app N13 M14
  have ne_a1_b14_0 : a1 ≠ b14_0 := Nat.ne_of_lt (Nat.lt_of_lt_of_le O_a1.1.lt zb14_0)
  have ne_a4_b14_0 : a4 ≠ b14_0 := Nat.ne_of_lt (Nat.lt_of_lt_of_le O_a4.1.lt zb14_0)
  have ne_a7_b14_0 : a7 ≠ b14_0 := Nat.ne_of_lt (Nat.lt_of_lt_of_le O_a7.1.lt zb14_0)
  have ne_a8_b14_0 : a8 ≠ b14_0 := Nat.ne_of_lt (Nat.lt_of_lt_of_le O_a8.1.lt zb14_0)
  have sz_b14_0 : h0.size ≤ b14_0 := Nat.le_trans K0.1 zb14_0
  have O_a1_14 := R_MP_keep O_a1 Kc14 nl
  have O_a4_14 := R_ND_keep O_a4 Kc14 nl
  have O_a7_14 := R_ND_keep O_a7 Kc14 nl
  have O_a8_14 := R_ND_keep O_a8 Kc14 nl
  have K14 := Keep.trans K0 Kc14 own_memn
  have Z14 : n0 ≤ T14.heap.size := Nat.le_trans Z0 Kc14.1
  refine g_astore X14 hx #[vr a1, vr a2, vr a3, vr a8, vi 1, vn, vn, vr b14_0, vn, vn, vn, vn, vi 1, vu, vu] (D d33_193) rfl rfl ?_
  refine g_aload X14 hx (D d33_195) rfl rfl ?_
  refine g_nonnullYes X14 hx 227 (D d33_197) (by decide) (by decide) ?_
  refine g_iload X14 hx (D d33_227) rfl ?_
  refine g_ifYes X14 hx 241 (D d33_229) ((if0 _ _).trans (flt ((by decide) : ¬ ((1 : Int32) < (0 : Int32)))).2.1) (by decide) (by decide) ?_
  refine g_aloadN X14 hx (D d33_241) rfl rfl ?_
  refine g_aload X14 hx (D d33_242) rfl rfl ?_
  refine g_putF X14 hx hZ hown (Wd103 hw) (rfl : T14.heap = T14.heap) O_a8_14.2.2.2.2.1 O_a8_14.1 (Or.inl (Wd104 hw)) (Wd76 hw) fd_2 rfl rfl (D d33_244) (fun T15 h15 X15 e15 W15 => ?_)
  have N15 := Fr.snoc X15 N14 g_a8
  have O_a1_15 := R_MP_other W15 O_a1_14 ne_a1_a8
  have O_a4_15 := R_ND_other W15 O_a4_14 ne_a4_a8
  have O_a7_15 := R_ND_other W15 O_a7_14 ne_a7_a8
  have O_a8_15 := R_ND_set_right hw W15 O_a8_14
  have O_b14_0_15 := R_ND_other W15 Rk14_0 ne_a8_b14_0.symm
  have Z15 : n0 ≤ h15.size := Nat.le_trans Z14 (Nat.le_of_eq W15.size.symm)
  have K15 := Keep.wr K14 W15 (mw 3 rfl)
  refine g_aloadN X15 hx (D d33_247) rfl rfl ?_
  refine g_dup X15 hx (D d33_248) rfl ?_
  refine g_getF X15 hx hZ hown (Wd96 hw) e15 O_a1_15.2.2.2.1 (D d33_249) (fun T16 X16 e16 => ?_)
  refine g_iconst X16 hx (1 : Int32) (D d33_252) (by decide) ?_
  refine g_iadd X16 hx (D d33_253) ?_
  show Go p e below (T16.setTop (mkF m 254 #[vr a1, vr a2, vr a3, vr a8, vi 1, vn, vn, vr b14_0, vn, vn, vn, vn, vi 1, vu, vu] [(.int ((3 : Int32) + (1 : Int32))), (.ref a1)])) _
  rw [show ((3 : Int32) + (1 : Int32)) = (4 : Int32) from by decide]
  refine g_putF X16 hx hZ hown (Wd96 hw) e16 O_a1_15.2.2.2.1 O_a1_15.1 (Or.inl (Wd97 hw)) (Wd2 hw) fd_0 rfl rfl (D d33_254) (fun T17 h17 X17 e17 W17 => ?_)
  have N17 := Fr.snoc X17 N15 g_a1
  have O_a1_17 := R_MP_set_size hw W17 O_a1_15
  have O_a4_17 := R_ND_other W17 O_a4_15 ne_a1_a4.symm
  have O_a7_17 := R_ND_other W17 O_a7_15 ne_a1_a7.symm
  have O_a8_17 := R_ND_other W17 O_a8_15 ne_a1_a8.symm
  have O_b14_0_17 := R_ND_other W17 O_b14_0_15 ne_a1_b14_0.symm
  have Z17 : n0 ≤ h17.size := Nat.le_trans Z15 (Nat.le_of_eq W17.size.symm)
  have K17 := Keep.wr K15 W17 (mw 0 rfl)
  refine g_aloadN X17 hx (D d33_257) rfl rfl ?_
  refine g_aloadN X17 hx (D d33_258) rfl rfl ?_
  refine g_V X17 hx hZ hown (lk14 hw) (rm_refreshToRoot_20 hw a1 a8 h17 n0 Z17 ) e17 O_a1_17.1 (D d33_259) hml.symm rfl rfl (Nat.le_refl _) (by decide) (fun v18 T18 L18 X18 q18 => ?_)
  obtain ⟨rfl, M18, e18⟩ := q18
  have N18 := Fr.app N17 M18
  refine g_aloadN X18 hx (D d33_262) rfl rfl ?_
  refine g_aload X18 hx (D d33_263) rfl rfl ?_
  refine g_P X18 hx hZ hown (lk17 hw) (rm_balanceAfterInsert_148 hw a1 b14_0 a4 i1 a2 a3 a8 a5 a6 a7 i2 a11 a12 i3 a9 a10 i5 h17 n0 Z17 O_a1_17 O_b14_0_17 O_a4_17 O_a8_17 O_a7_17 ne_a1_a4 ne_a1_a8 ne_a1_a7 ne_a4_a8 ne_a4_a7 ne_a7_a8.symm g_a4 g_a8 g_a7 hk0 hk1 hk2 hk3) e18 O_a1_17.1 (D d33_265) hml.symm rfl rfl (Nat.le_refl _) (by decide) (fun v19 T19 L19 X19 q19 => ?_)
  obtain ⟨rfl, M19, Kc19, Rk19_0, Rk19_1, Rk19_2⟩ := q19
  have N19 := Fr.app N18 M19
  have O_a1_19 := R_MP_keep O_a1_17 Kc19 (own_nin ne_a1_a4 (own_nin ne_a1_a8 (own_nin ne_a1_a7 nl)))
  have O_b14_0_19 := R_ND_keep O_b14_0_17 Kc19 (own_nin ne_a4_b14_0.symm (own_nin ne_a8_b14_0.symm (own_nin ne_a7_b14_0.symm nl)))
  have K19 := Keep.trans K17 Kc19 (own_memc (mw 1 rfl) (own_memc (mw 3 rfl) (own_memc (mw 2 rfl) own_memn)))
  refine g_aloadN X19 hx (D d33_268) rfl rfl ?_
  refine g_dup X19 hx (D d33_269) rfl ?_
  refine g_getF X19 hx hZ hown (Wd98 hw) (rfl : T19.heap = T19.heap) O_a1_19.2.2.2.2 (D d33_270) (fun T20 X20 e20 => ?_)
  refine g_iconst X20 hx (1 : Int32) (D d33_273) (by decide) ?_
  refine g_iadd X20 hx (D d33_274) ?_
  refine g_putF X20 hx hZ hown (Wd98 hw) e20 O_a1_19.2.2.2.2 O_a1_19.1 (Or.inl (Wd99 hw)) (Wd2 hw) fd_0 rfl rfl (D d33_275) (fun T21 h21 X21 e21 W21 => ?_)
  have N21 := Fr.snoc X21 N19 g_a1
  have O_a1_21 := R_MP_set_modCount hw W21 O_a1_19
  have O_b14_0_21 := R_ND_other W21 O_b14_0_19 ne_a1_b14_0.symm
  have O_a4_21 := R_ND_other W21 Rk19_0 ne_a1_a4.symm
  have O_a8_21 := R_ND_other W21 Rk19_1 ne_a1_a8.symm
  have O_a7_21 := R_ND_other W21 Rk19_2 ne_a1_a7.symm
  have K21 := Keep.wr K19 W21 (mw 0 rfl)
  refine g_null X21 hx (D d33_278) ?_
  exact own_retA X21 hx hret hlk rfl rfl (D d33_279) (by decide) (by decide) (by rw [e21]; exact ⟨b14_0, rfl, N21, K21, sz_b14_0, O_a1_21, O_a4_21, O_a7_21, O_a8_21, O_b14_0_21⟩)
theorem rm_put_146 (hw : HW a0 Z) (a1 a2 : Addr) (a3 a4 : Addr) (i1 i2 : Int32) (a5 a6 : Addr) (a7 a8 : Addr) (i3 : Int32) (a9 a10 : Addr) (a11 a12 : Addr) (i5 : Int32) (h0 : Heap) (n0 : Nat) (Z0 : n0 ≤ h0.size) (O_a1 : R_MP Z h0 a1 .null (.ref a4) (.int 3) (.int i1)) (O_a2 : R_IN Z h0 a2 (.int i2)) (O_a4 : R_ND Z h0 a4 (.ref a5) (.ref a6) (.ref a7) (.ref a8) .null (.int 1)) (O_a5 : R_IN Z h0 a5 (.int i3)) (O_a7 : R_ND Z h0 a7 (.ref a9) (.ref a10) .null .null (.ref a4) (.int (-2147483648))) (O_a8 : R_ND Z h0 a8 (.ref a11) (.ref a12) .null .null (.ref a4) (.int (-2147483648))) (O_a11 : R_IN Z h0 a11 (.int i5)) (ne_a1_a4 : a1 ≠ a4) (ne_a1_a7 : a1 ≠ a7) (ne_a1_a8 : a1 ≠ a8) (ne_a4_a7 : a4 ≠ a7) (ne_a4_a8 : a4 ≠ a8) (ne_a7_a8 : a7 ≠ a8) (g_a1 : n0 ≤ a1) (g_a4 : n0 ≤ a4) (g_a7 : n0 ≤ a7) (g_a8 : n0 ≤ a8) (hk0 : ¬ (i2 < i3)) (hk1 : ¬ (i2 = i3)) (hk2 : ¬ (i2 < i5)) (hk3 : ¬ (i2 = i5)) :
    Ctr l Y20 B19 4 (some F3_) [] (rmk 5 1 6 79) Z #[(.ref a1), (.ref a2), (.ref a3)] h0 (fun v h L => ∃ f1, v = some .null ∧ Fr n0 L ∧ Keep h0 h [a1, a4, a7, a8] ∧ h0.size ≤ f1 ∧ R_MP Z h a1 .null (.ref a4) (.int 4) (.int (i1 + (1 : Int32))) ∧ R_ND Z h a4 (.ref a5) (.ref a6) (.ref a7) (.ref a8) .null (.int 1) ∧ R_ND Z h a7 (.ref a9) (.ref a10) .null .null (.ref a4) (.int 0) ∧ R_ND Z h a8 (.ref a11) (.ref a12) .null (.ref f1) (.ref a4) (.int 0) ∧ R_ND Z h f1 (.ref a2) (.ref a3) .null .null (.ref a8) (.int (-2147483648))) := by
  refine own_enter pn_2 (fun p e s m below meth c s₁ hx hby hml hown hnm hret hlk hZ X0 e0 => ?_)
  have N0 := Fr.nil n0
  have K0 := Keep.refl h0 [a1, a4, a7, a8]
  rw [ef_7_RRR m _ _ _]
  refine g_aloadN X0 hx (hb hby d7_0) rfl rfl ?_
  refine g_aloadN X0 hx (hb hby d7_1) rfl rfl ?_
  refine g_aloadN X0 hx (hb hby d7_2) rfl rfl ?_
  refine g_PH X0 hx hZ hown (lk18 hw) (rm_addIfAbsent_147 hw a1 a2 a3 a4 i1 i2 a5 a6 a7 a8 i3 a9 a10 a11 a12 i5 h0 n0 Z0 O_a1 O_a2 O_a4 O_a5 O_a7 O_a8 O_a11 ne_a1_a4 ne_a1_a7 ne_a1_a8 ne_a4_a7 ne_a4_a8 ne_a7_a8 g_a1 g_a4 g_a7 g_a8 hk0 hk1 hk2 hk3) e0 O_a1.1 (hb hby d7_3) hml.symm rfl rfl (Nat.le_refl _) (by decide) (fun v1 T1 L1 X1 q1 => ?_)
  obtain ⟨b1_0, rfl, M1, Kc1, zb1_0, Rk1_0, Rk1_1, Rk1_2, Rk1_3, Rk1_4⟩ := q1
  have N1 := Fr.app N0 M1
  have sz_b1_0 : h0.size ≤ b1_0 := Nat.le_trans K0.1 zb1_0
  have K1 := Keep.trans K0 Kc1 (own_memc (mw 0 rfl) (own_memc (mw 1 rfl) (own_memc (mw 2 rfl) (own_memc (mw 3 rfl) own_memn))))
  refine g_astoreN X1 hx #[vr a1, vr a2, vr a3, vn] (hb hby d7_6) rfl rfl ?_
  refine g_aloadN X1 hx (hb hby d7_7) rfl rfl ?_
  refine g_nonnullNo X1 hx (hb hby d7_8) ?_
  refine g_null X1 hx (hb hby d7_11) ?_
  refine g_goto X1 hx 21 (hb hby d7_12) (by decide) (by decide) ?_
  exact own_retA X1 hx hret hlk rfl rfl (hb hby d7_21) (by decide) (by decide) (by rw [(rfl : T1.heap = T1.heap)]; exact ⟨b1_0, rfl, N1, K1, sz_b1_0, Rk1_0, Rk1_1, Rk1_2, Rk1_3, Rk1_4⟩)
theorem seg_77_3 (hw : HW a0 Z) (wc : Addr) (clc : Cell) (p1 p2 : Int32) (p3 p4 : Int32) (p5 n : Int32) (M : Addr) (mc : Int32) (r t : Addr) (u kx vx : Addr) (x : Int32) (kz vz : Addr) (z : Int32) (km vm : Addr) (ma va : Int32) (m2 v2 : Int32) (h0 : Heap) (n0 : Nat) (Z0 : n0 ≤ h0.size) (hN : Z.heap.size ≤ n0) (C1 : Sta Z Z.heap "java/lang/Integer$IntegerCache" "high" "I" (.int 127)) (C2 : Sta Z Z.heap "java/lang/Integer$IntegerCache" "cache" "[Ljava/lang/Integer;" (.ref wc)) (BX : Bxs Z wc clc "java/lang/Integer" "I" (256 : Int32) (fun j => .int (j - (128 : Int32)))) (KO : Keep Z.heap h0 []) (O_M : R_MP Z h0 M .null (.ref r) (.int 3) (.int mc)) (O_r : R_ND Z h0 r (.ref kx) (.ref vx) (.ref t) (.ref u) .null (.int 1)) (O_t : R_ND Z h0 t (.ref km) (.ref vm) .null .null (.ref r) (.int (-2147483648))) (O_u : R_ND Z h0 u (.ref kz) (.ref vz) .null .null (.ref r) (.int (-2147483648))) (O_kx : R_IN Z h0 kx (.int x)) (O_kz : R_IN Z h0 kz (.int z)) (O_km : R_IN Z h0 km (.int ma)) (O_vm : R_IN Z h0 vm (.int va)) (ne_M_r : M ≠ r) (ne_M_t : M ≠ t) (ne_M_u : M ≠ u) (ne_M_kx : M ≠ kx) (ne_M_kz : M ≠ kz) (ne_M_km : M ≠ km) (ne_M_vm : M ≠ vm) (ne_r_t : r ≠ t) (ne_r_u : r ≠ u) (ne_r_kx : r ≠ kx) (ne_r_kz : r ≠ kz) (ne_r_km : r ≠ km) (ne_r_vm : r ≠ vm) (ne_t_u : t ≠ u) (ne_t_kx : t ≠ kx) (ne_t_kz : t ≠ kz) (ne_t_km : t ≠ km) (ne_t_vm : t ≠ vm) (ne_u_kx : u ≠ kx) (ne_u_kz : u ≠ kz) (ne_u_km : u ≠ km) (ne_u_vm : u ≠ vm) (g_M : n0 ≤ M) (g_r : n0 ≤ r) (g_t : n0 ≤ t) (g_u : n0 ≤ u) (hn : ¬ n = (0 : Int32)) (ho : ma < x) (Tb : own_T n (2 : Int32) p3 p2 (0 : Int32) (1 : Int32) m2 v2) (Tc : own_T n (3 : Int32) p4 m2 v2 (2 : Int32) ma va) {p : Program} {e : Env} {s : State} {m : MethodId} {below : List Frame} {meth : Method} {c : Code} {args : Array Value} {s₁ : State} {lo : List Loc} (hx : p.tables.exec = Jvm.exec) (hby : c.code = code) (hml : c.maxLocals = maxLocals) (hown : s.vm.findClass "com/example/rosewood/rosewood/RosewoodMapFirstPinLaw" = some m.cls) (hnm : meth.name = "law") (hret : meth.sig.returnType = ret) (hlk : meth.locks = false) (hZ : Z.Warmed39 s.vm) (X0 : Stand p l e room_1 s m args below meth c s₁ lo 10 31) (e0 : s₁.heap = h0) (N0 : Fr n0 lo) :
    Go p e below (s₁.setTop (mkF m 77 #[vi p1, vi p2, vi p3, vi p4, vi p5, vi n, vr M, vu, vu, vu] [])) (FinE s room_1.cells room_1.slots (fun v h L => v = some (.int 1) ∧ Fr n0 L)) := by
  have D {q : Nat} {r} (z : decode code q = r) : decode c.code q = r := hb hby z
  refine g_iload X0 hx (D at_77) rfl ?_
  refine g_iconst X0 hx (4 : Int32) (D at_79) (by decide) ?_
  by_cases c80_1 : n < (4 : Int32)
  · refine g_icmpYes X0 hx 98 (D at_80) (tlt c80_1).1 (by decide) (by decide) ?_
    exact seg_98_D2 hw p1 p2 p3 p4 p5 n M mc (3 : Int32) r (.ref u) (1 : Int32) kx vx t .null (-2147483648 : Int32) km vm ma va m2 v2 ma va h0 n0 Z0 O_M O_r O_t O_km O_vm ne_M_r ne_M_t ne_M_km ne_M_vm ne_r_t ne_r_km ne_r_vm ne_t_km ne_t_vm g_M g_r g_t hn Tb Tc (by have u0 : ¬ (n = (0 : Int32)) := hn; have u1 : n < (4 : Int32) := c80_1; have u2 := hn; have u3 := ho; have u4 := Tb; have u5 := Tc; (try simp only [own_T, own_R, Int32.lt_iff_toInt_lt, ← Int32.toInt_inj, Int32.reduceToInt] at u0 u1 u2 u3 u4 u5) <;> (try simp only [own_T, own_R, Int32.lt_iff_toInt_lt, ← Int32.toInt_inj, Int32.reduceToInt]) <;> first | omega | (simp; done) | (simp; omega)) hx hby hml hown hnm hret hlk hZ (Stand.more X0 (by decide) (by decide)) e0 N0
  · refine g_icmpNo X0 hx (D at_80) (flt c80_1).1 ?_
    refine g_aload X0 hx (D at_83) rfl rfl ?_
    refine g_iload X0 hx (D at_85) rfl ?_
    refine g_S X0 hx hZ hown (lk5 hw) (rm_valueOf hw wc clc p5 h0 n0 Z0 hN C1 C2 BX KO) e0 (D at_87) hml.symm rfl (rest := [(.ref M)]) rfl (W := 1) (Nat.le_of_eq rfl) (by decide) (fun v2 T2 L2 X2 q2 => ?_)
    obtain ⟨b2, rfl, M2, Kc2, O2⟩ := q2
    have N2 := Fr.app N0 M2
    have O_M_2 := R_MP_keep O_M Kc2 nl
    have O_r_2 := R_ND_keep O_r Kc2 nl
    have O_t_2 := R_ND_keep O_t Kc2 nl
    have O_u_2 := R_ND_keep O_u Kc2 nl
    have O_kx_2 := R_IN_keep O_kx Kc2 nl
    have O_kz_2 := R_IN_keep O_kz Kc2 nl
    have O_km_2 := R_IN_keep O_km Kc2 nl
    have O_vm_2 := R_IN_keep O_vm Kc2 nl
    have KO_2 := Keep.trans KO Kc2 own_memn
    have ne_M_b2 : M ≠ b2 := own_exane O_M_2.1 O2.1 (by decide)
    have ne_r_b2 : r ≠ b2 := own_exane O_r_2.1 O2.1 (by decide)
    have ne_t_b2 : t ≠ b2 := own_exane O_t_2.1 O2.1 (by decide)
    have ne_u_b2 : u ≠ b2 := own_exane O_u_2.1 O2.1 (by decide)
    have Z2 : n0 ≤ T2.heap.size := Nat.le_trans Z0 Kc2.1
    refine g_iconst X2 hx (3 : Int32) (D at_90) (by decide) ?_
    refine g_S X2 hx hZ hown (lk5 hw) (rm_valueOf hw wc clc (3 : Int32) T2.heap n0 Z2 hN C1 C2 BX KO_2) (rfl : T2.heap = T2.heap) (D at_91) hml.symm rfl (rest := [(.ref b2), (.ref M)]) rfl (W := 2) (Nat.le_of_eq rfl) (by decide) (fun v3 T3 L3 X3 q3 => ?_)
    obtain ⟨b3, rfl, M3, Kc3, O3⟩ := q3
    have N3 := Fr.app N2 M3
    have O_M_3 := R_MP_keep O_M_2 Kc3 nl
    have O_r_3 := R_ND_keep O_r_2 Kc3 nl
    have O_t_3 := R_ND_keep O_t_2 Kc3 nl
    have O_u_3 := R_ND_keep O_u_2 Kc3 nl
    have O_kx_3 := R_IN_keep O_kx_2 Kc3 nl
    have O_kz_3 := R_IN_keep O_kz_2 Kc3 nl
    have O_km_3 := R_IN_keep O_km_2 Kc3 nl
    have O_vm_3 := R_IN_keep O_vm_2 Kc3 nl
    have O_b2_3 := R_IN_keep O2 Kc3 nl
    have ne_M_b3 : M ≠ b3 := own_exane O_M_3.1 O3.1 (by decide)
    have ne_r_b3 : r ≠ b3 := own_exane O_r_3.1 O3.1 (by decide)
    have ne_t_b3 : t ≠ b3 := own_exane O_t_3.1 O3.1 (by decide)
    have ne_u_b3 : u ≠ b3 := own_exane O_u_3.1 O3.1 (by decide)
    have Z3 : n0 ≤ T3.heap.size := Nat.le_trans Z2 Kc3.1
    rcases own_tri p5 x with t94_4 | ⟨t94_4, t94_4'⟩ | ⟨t94_4, t94_4'⟩
    · rcases own_tri p5 ma with t94_5 | ⟨t94_5, t94_5'⟩ | ⟨t94_5, t94_5'⟩
      · refine g_V X3 hx hZ hown (lk19 hw) (rm_put_115 hw M b2 b3 r mc p5 kx vx t u x km vm kz vz ma T3.heap n0 Z3 O_M_3 O_b2_3 O_r_3 O_kx_3 O_t_3 O_u_3 O_km_3 ne_M_r ne_M_t ne_M_u ne_r_b2.symm ne_r_t ne_r_u ne_r_km ne_t_u g_M g_r g_t g_u t94_4 t94_5) (rfl : T3.heap = T3.heap) O_M_3.1 (D at_94) hml.symm rfl rfl (Nat.le_refl _) (by decide) (fun v6 T6 L6 X6 q6 => ?_)
        obtain ⟨b6_0, rfl, M6, Kc6, zb6_0, Rk6_0, Rk6_1, Rk6_2, Rk6_3, Rk6_4⟩ := q6
        have N6 := Fr.app N3 M6
        have ne_M_b6_0 : M ≠ b6_0 := Nat.ne_of_lt (Nat.lt_of_lt_of_le O_M_3.1.lt zb6_0)
        have ne_r_b6_0 : r ≠ b6_0 := Nat.ne_of_lt (Nat.lt_of_lt_of_le O_r_3.1.lt zb6_0)
        have ne_t_b6_0 : t ≠ b6_0 := Nat.ne_of_lt (Nat.lt_of_lt_of_le O_t_3.1.lt zb6_0)
        have ne_b2_b6_0 : b2 ≠ b6_0 := Nat.ne_of_lt (Nat.lt_of_lt_of_le O_b2_3.1.lt zb6_0)
        have ne_b3_b6_0 : b3 ≠ b6_0 := Nat.ne_of_lt (Nat.lt_of_lt_of_le O3.1.lt zb6_0)
        have g_b6_0 : n0 ≤ b6_0 := Nat.le_trans Z3 zb6_0
        have O_b2_6 := R_IN_keep O_b2_3 Kc6 (own_nin ne_M_b2.symm (own_nin ne_r_b2.symm (own_nin ne_t_b2.symm (own_nin ne_u_b2.symm nl))))
        have O_b3_6 := R_IN_keep O3 Kc6 (own_nin ne_M_b3.symm (own_nin ne_r_b3.symm (own_nin ne_t_b3.symm (own_nin ne_u_b3.symm nl))))
        have Z6 : n0 ≤ T6.heap.size := Nat.le_trans Z3 Kc6.1
        refine g_pop X6 hx (D at_97) rfl ?_
        exact seg_98_D3 hw p1 p2 p3 p4 p5 n M (mc + (1 : Int32)) (4 : Int32) r (.ref u) (2 : Int32) kx vx t .null (1 : Int32) km vm b6_0 .null (-2147483648 : Int32) b2 b3 p5 (3 : Int32) m2 v2 ma va T6.heap n0 Z6 Rk6_0 Rk6_1 Rk6_2 Rk6_4 O_b2_6 O_b3_6 ne_M_r ne_M_t ne_M_b6_0 ne_M_b2 ne_M_b3 ne_r_t ne_r_b6_0 ne_r_b2 ne_r_b3 ne_t_b6_0 ne_t_b2 ne_t_b3 ne_b2_b6_0.symm ne_b3_b6_0.symm g_M g_r g_t g_b6_0 hn Tb Tc (by have u0 : ¬ (n = (0 : Int32)) := hn; have u1 : ¬ (n < (4 : Int32)) := c80_1; have u2 : p5 < x := t94_4; have u3 : p5 < ma := t94_5; have u4 := hn; have u5 := ho; have u6 := Tb; have u7 := Tc; (try simp only [own_T, own_R, Int32.lt_iff_toInt_lt, ← Int32.toInt_inj, Int32.reduceToInt] at u0 u1 u2 u3 u4 u5 u6 u7) <;> (try simp only [own_T, own_R, Int32.lt_iff_toInt_lt, ← Int32.toInt_inj, Int32.reduceToInt]) <;> first | omega | (simp; done) | (simp; omega)) hx hby hml hown hnm hret hlk hZ (Stand.more X6 (by decide) (by decide)) (rfl : T6.heap = T6.heap) N6
      · refine g_V X3 hx hZ hown (lk19 hw) (rm_put_124 hw M b2 b3 r mc p5 kx vx t u x km vm kz vz ma T3.heap n0 Z3 O_M_3 O_b2_3 O_r_3 O_kx_3 O_t_3 O_u_3 O_km_3 ne_M_r ne_r_b2.symm ne_r_t ne_r_km g_r g_t t94_4 t94_5 t94_5') (rfl : T3.heap = T3.heap) O_M_3.1 (D at_94) hml.symm rfl rfl (Nat.le_refl _) (by decide) (fun v7 T7 L7 X7 q7 => ?_)
        obtain ⟨rfl, M7, Kc7, Rk7_0, Rk7_1⟩ := q7
        have N7 := Fr.app N3 M7
        have O_M_7 := R_MP_keep O_M_3 Kc7 (own_nin ne_M_r (own_nin ne_M_t nl))
        have O_km_7 := R_IN_keep O_km_3 Kc7 (own_nin ne_r_km.symm (own_nin ne_t_km.symm nl))
        have O_b3_7 := R_IN_keep O3 Kc7 (own_nin ne_r_b3.symm (own_nin ne_t_b3.symm nl))
        have Z7 : n0 ≤ T7.heap.size := Nat.le_trans Z3 Kc7.1
        refine g_pop X7 hx (D at_97) rfl ?_
        exact seg_98_D2 hw p1 p2 p3 p4 p5 n M mc (3 : Int32) r (.ref u) (1 : Int32) kx vx t .null (-2147483648 : Int32) km b3 ma (3 : Int32) m2 v2 ma va T7.heap n0 Z7 O_M_7 Rk7_0 Rk7_1 O_km_7 O_b3_7 ne_M_r ne_M_t ne_M_km ne_M_b3 ne_r_t ne_r_km ne_r_b3 ne_t_km ne_t_b3 g_M g_r g_t hn Tb Tc (by have u0 : ¬ (n = (0 : Int32)) := hn; have u1 : ¬ (n < (4 : Int32)) := c80_1; have u2 : p5 < x := t94_4; have u3 : ¬ (p5 < ma) := t94_5; have u4 : p5 = ma := t94_5'; have u5 := hn; have u6 := ho; have u7 := Tb; have u8 := Tc; (try simp only [own_T, own_R, Int32.lt_iff_toInt_lt, ← Int32.toInt_inj, Int32.reduceToInt] at u0 u1 u2 u3 u4 u5 u6 u7 u8) <;> (try simp only [own_T, own_R, Int32.lt_iff_toInt_lt, ← Int32.toInt_inj, Int32.reduceToInt]) <;> first | omega | (simp; done) | (simp; omega)) hx hby hml hown hnm hret hlk hZ (Stand.more X7 (by decide) (by decide)) (rfl : T7.heap = T7.heap) N7
      · refine g_V X3 hx hZ hown (lk19 hw) (rm_put_130 hw M b2 b3 r mc p5 kx vx t u x km vm kz vz ma T3.heap n0 Z3 O_M_3 O_b2_3 O_r_3 O_kx_3 O_t_3 O_u_3 O_km_3 ne_M_r ne_M_t ne_M_u ne_r_b2.symm ne_r_t ne_r_u ne_r_km ne_t_u g_M g_r g_t g_u t94_4 t94_5 t94_5') (rfl : T3.heap = T3.heap) O_M_3.1 (D at_94) hml.symm rfl rfl (Nat.le_refl _) (by decide) (fun v8 T8 L8 X8 q8 => ?_)
        obtain ⟨b8_0, rfl, M8, Kc8, zb8_0, Rk8_0, Rk8_1, Rk8_2, Rk8_3, Rk8_4⟩ := q8
        have N8 := Fr.app N3 M8
        have O_km_8 := R_IN_keep O_km_3 Kc8 (own_nin ne_M_km.symm (own_nin ne_r_km.symm (own_nin ne_t_km.symm (own_nin ne_u_km.symm nl))))
        have O_vm_8 := R_IN_keep O_vm_3 Kc8 (own_nin ne_M_vm.symm (own_nin ne_r_vm.symm (own_nin ne_t_vm.symm (own_nin ne_u_vm.symm nl))))
        have Z8 : n0 ≤ T8.heap.size := Nat.le_trans Z3 Kc8.1
        refine g_pop X8 hx (D at_97) rfl ?_
        exact seg_98_D2 hw p1 p2 p3 p4 p5 n M (mc + (1 : Int32)) (4 : Int32) r (.ref u) (2 : Int32) kx vx t (.ref b8_0) (0 : Int32) km vm ma va m2 v2 ma va T8.heap n0 Z8 Rk8_0 Rk8_1 Rk8_2 O_km_8 O_vm_8 ne_M_r ne_M_t ne_M_km ne_M_vm ne_r_t ne_r_km ne_r_vm ne_t_km ne_t_vm g_M g_r g_t hn Tb Tc (by have u0 : ¬ (n = (0 : Int32)) := hn; have u1 : ¬ (n < (4 : Int32)) := c80_1; have u2 : p5 < x := t94_4; have u3 : ¬ (p5 < ma) := t94_5; have u4 : ¬ (p5 = ma) := t94_5'; have u5 := hn; have u6 := ho; have u7 := Tb; have u8 := Tc; (try simp only [own_T, own_R, Int32.lt_iff_toInt_lt, ← Int32.toInt_inj, Int32.reduceToInt] at u0 u1 u2 u3 u4 u5 u6 u7 u8) <;> (try simp only [own_T, own_R, Int32.lt_iff_toInt_lt, ← Int32.toInt_inj, Int32.reduceToInt]) <;> first | omega | (simp; done) | (simp; omega)) hx hby hml hown hnm hret hlk hZ (Stand.more X8 (by decide) (by decide)) (rfl : T8.heap = T8.heap) N8
    · refine g_V X3 hx hZ hown (lk19 hw) (rm_put_134 hw M b2 b3 r mc p5 kx vx t u x km vm kz vz T3.heap n0 Z3 O_M_3 O_b2_3 O_r_3 O_kx_3 O_t_3 O_u_3 g_r t94_4 t94_4') (rfl : T3.heap = T3.heap) O_M_3.1 (D at_94) hml.symm rfl rfl (Nat.le_refl _) (by decide) (fun v9 T9 L9 X9 q9 => ?_)
      obtain ⟨rfl, M9, Kc9, Rk9_0⟩ := q9
      have N9 := Fr.app N3 M9
      have O_M_9 := R_MP_keep O_M_3 Kc9 (own_nin ne_M_r nl)
      have O_t_9 := R_ND_keep O_t_3 Kc9 (own_nin ne_r_t.symm nl)
      have O_km_9 := R_IN_keep O_km_3 Kc9 (own_nin ne_r_km.symm nl)
      have O_vm_9 := R_IN_keep O_vm_3 Kc9 (own_nin ne_r_vm.symm nl)
      have Z9 : n0 ≤ T9.heap.size := Nat.le_trans Z3 Kc9.1
      refine g_pop X9 hx (D at_97) rfl ?_
      exact seg_98_D2 hw p1 p2 p3 p4 p5 n M mc (3 : Int32) r (.ref u) (1 : Int32) kx b3 t .null (-2147483648 : Int32) km vm ma va m2 v2 ma va T9.heap n0 Z9 O_M_9 Rk9_0 O_t_9 O_km_9 O_vm_9 ne_M_r ne_M_t ne_M_km ne_M_vm ne_r_t ne_r_km ne_r_vm ne_t_km ne_t_vm g_M g_r g_t hn Tb Tc (by have u0 : ¬ (n = (0 : Int32)) := hn; have u1 : ¬ (n < (4 : Int32)) := c80_1; have u2 : ¬ (p5 < x) := t94_4; have u3 : p5 = x := t94_4'; have u4 := hn; have u5 := ho; have u6 := Tb; have u7 := Tc; (try simp only [own_T, own_R, Int32.lt_iff_toInt_lt, ← Int32.toInt_inj, Int32.reduceToInt] at u0 u1 u2 u3 u4 u5 u6 u7) <;> (try simp only [own_T, own_R, Int32.lt_iff_toInt_lt, ← Int32.toInt_inj, Int32.reduceToInt]) <;> first | omega | (simp; done) | (simp; omega)) hx hby hml hown hnm hret hlk hZ (Stand.more X9 (by decide) (by decide)) (rfl : T9.heap = T9.heap) N9
    · rcases own_tri p5 z with t94_10 | ⟨t94_10, t94_10'⟩ | ⟨t94_10, t94_10'⟩
      · refine g_V X3 hx hZ hown (lk19 hw) (rm_put_138 hw M b2 b3 r mc p5 kx vx t u x km vm kz vz z T3.heap n0 Z3 O_M_3 O_b2_3 O_r_3 O_kx_3 O_t_3 O_u_3 O_kz_3 ne_M_r ne_M_t ne_M_u ne_r_t ne_r_u ne_t_u g_M g_r g_t g_u t94_4 t94_4' t94_10) (rfl : T3.heap = T3.heap) O_M_3.1 (D at_94) hml.symm rfl rfl (Nat.le_refl _) (by decide) (fun v11 T11 L11 X11 q11 => ?_)
        obtain ⟨b11_0, rfl, M11, Kc11, zb11_0, Rk11_0, Rk11_1, Rk11_2, Rk11_3, Rk11_4⟩ := q11
        have N11 := Fr.app N3 M11
        have O_km_11 := R_IN_keep O_km_3 Kc11 (own_nin ne_M_km.symm (own_nin ne_r_km.symm (own_nin ne_t_km.symm (own_nin ne_u_km.symm nl))))
        have O_vm_11 := R_IN_keep O_vm_3 Kc11 (own_nin ne_M_vm.symm (own_nin ne_r_vm.symm (own_nin ne_t_vm.symm (own_nin ne_u_vm.symm nl))))
        have Z11 : n0 ≤ T11.heap.size := Nat.le_trans Z3 Kc11.1
        refine g_pop X11 hx (D at_97) rfl ?_
        exact seg_98_D2 hw p1 p2 p3 p4 p5 n M (mc + (1 : Int32)) (4 : Int32) r (.ref u) (1 : Int32) kx vx t .null (0 : Int32) km vm ma va m2 v2 ma va T11.heap n0 Z11 Rk11_0 Rk11_1 Rk11_2 O_km_11 O_vm_11 ne_M_r ne_M_t ne_M_km ne_M_vm ne_r_t ne_r_km ne_r_vm ne_t_km ne_t_vm g_M g_r g_t hn Tb Tc (by have u0 : ¬ (n = (0 : Int32)) := hn; have u1 : ¬ (n < (4 : Int32)) := c80_1; have u2 : ¬ (p5 < x) := t94_4; have u3 : ¬ (p5 = x) := t94_4'; have u4 : p5 < z := t94_10; have u5 := hn; have u6 := ho; have u7 := Tb; have u8 := Tc; (try simp only [own_T, own_R, Int32.lt_iff_toInt_lt, ← Int32.toInt_inj, Int32.reduceToInt] at u0 u1 u2 u3 u4 u5 u6 u7 u8) <;> (try simp only [own_T, own_R, Int32.lt_iff_toInt_lt, ← Int32.toInt_inj, Int32.reduceToInt]) <;> first | omega | (simp; done) | (simp; omega)) hx hby hml hown hnm hret hlk hZ (Stand.more X11 (by decide) (by decide)) (rfl : T11.heap = T11.heap) N11
      · refine g_V X3 hx hZ hown (lk19 hw) (rm_put_143 hw M b2 b3 r mc p5 kx vx t u x km vm kz vz z T3.heap n0 Z3 O_M_3 O_b2_3 O_r_3 O_kx_3 O_t_3 O_u_3 O_kz_3 g_u t94_4 t94_4' t94_10 t94_10') (rfl : T3.heap = T3.heap) O_M_3.1 (D at_94) hml.symm rfl rfl (Nat.le_refl _) (by decide) (fun v12 T12 L12 X12 q12 => ?_)
        obtain ⟨rfl, M12, Kc12, Rk12_0⟩ := q12
        have N12 := Fr.app N3 M12
        have O_M_12 := R_MP_keep O_M_3 Kc12 (own_nin ne_M_u nl)
        have O_r_12 := R_ND_keep O_r_3 Kc12 (own_nin ne_r_u nl)
        have O_t_12 := R_ND_keep O_t_3 Kc12 (own_nin ne_t_u nl)
        have O_km_12 := R_IN_keep O_km_3 Kc12 (own_nin ne_u_km.symm nl)
        have O_vm_12 := R_IN_keep O_vm_3 Kc12 (own_nin ne_u_vm.symm nl)
        have Z12 : n0 ≤ T12.heap.size := Nat.le_trans Z3 Kc12.1
        refine g_pop X12 hx (D at_97) rfl ?_
        exact seg_98_D2 hw p1 p2 p3 p4 p5 n M mc (3 : Int32) r (.ref u) (1 : Int32) kx vx t .null (-2147483648 : Int32) km vm ma va m2 v2 ma va T12.heap n0 Z12 O_M_12 O_r_12 O_t_12 O_km_12 O_vm_12 ne_M_r ne_M_t ne_M_km ne_M_vm ne_r_t ne_r_km ne_r_vm ne_t_km ne_t_vm g_M g_r g_t hn Tb Tc (by have u0 : ¬ (n = (0 : Int32)) := hn; have u1 : ¬ (n < (4 : Int32)) := c80_1; have u2 : ¬ (p5 < x) := t94_4; have u3 : ¬ (p5 = x) := t94_4'; have u4 : ¬ (p5 < z) := t94_10; have u5 : p5 = z := t94_10'; have u6 := hn; have u7 := ho; have u8 := Tb; have u9 := Tc; (try simp only [own_T, own_R, Int32.lt_iff_toInt_lt, ← Int32.toInt_inj, Int32.reduceToInt] at u0 u1 u2 u3 u4 u5 u6 u7 u8 u9) <;> (try simp only [own_T, own_R, Int32.lt_iff_toInt_lt, ← Int32.toInt_inj, Int32.reduceToInt]) <;> first | omega | (simp; done) | (simp; omega)) hx hby hml hown hnm hret hlk hZ (Stand.more X12 (by decide) (by decide)) (rfl : T12.heap = T12.heap) N12
      · refine g_V X3 hx hZ hown (lk19 hw) (rm_put_146 hw M b2 b3 r mc p5 kx vx t u x km vm kz vz z T3.heap n0 Z3 O_M_3 O_b2_3 O_r_3 O_kx_3 O_t_3 O_u_3 O_kz_3 ne_M_r ne_M_t ne_M_u ne_r_t ne_r_u ne_t_u g_M g_r g_t g_u t94_4 t94_4' t94_10 t94_10') (rfl : T3.heap = T3.heap) O_M_3.1 (D at_94) hml.symm rfl rfl (Nat.le_refl _) (by decide) (fun v13 T13 L13 X13 q13 => ?_)
        obtain ⟨b13_0, rfl, M13, Kc13, zb13_0, Rk13_0, Rk13_1, Rk13_2, Rk13_3, Rk13_4⟩ := q13
        have N13 := Fr.app N3 M13
        have O_km_13 := R_IN_keep O_km_3 Kc13 (own_nin ne_M_km.symm (own_nin ne_r_km.symm (own_nin ne_t_km.symm (own_nin ne_u_km.symm nl))))
        have O_vm_13 := R_IN_keep O_vm_3 Kc13 (own_nin ne_M_vm.symm (own_nin ne_r_vm.symm (own_nin ne_t_vm.symm (own_nin ne_u_vm.symm nl))))
        have Z13 : n0 ≤ T13.heap.size := Nat.le_trans Z3 Kc13.1
        refine g_pop X13 hx (D at_97) rfl ?_
        exact seg_98_D2 hw p1 p2 p3 p4 p5 n M (mc + (1 : Int32)) (4 : Int32) r (.ref u) (1 : Int32) kx vx t .null (0 : Int32) km vm ma va m2 v2 ma va T13.heap n0 Z13 Rk13_0 Rk13_1 Rk13_2 O_km_13 O_vm_13 ne_M_r ne_M_t ne_M_km ne_M_vm ne_r_t ne_r_km ne_r_vm ne_t_km ne_t_vm g_M g_r g_t hn Tb Tc (by have u0 : ¬ (n = (0 : Int32)) := hn; have u1 : ¬ (n < (4 : Int32)) := c80_1; have u2 : ¬ (p5 < x) := t94_4; have u3 : ¬ (p5 = x) := t94_4'; have u4 : ¬ (p5 < z) := t94_10; have u5 : ¬ (p5 = z) := t94_10'; have u6 := hn; have u7 := ho; have u8 := Tb; have u9 := Tc; (try simp only [own_T, own_R, Int32.lt_iff_toInt_lt, ← Int32.toInt_inj, Int32.reduceToInt] at u0 u1 u2 u3 u4 u5 u6 u7 u8 u9) <;> (try simp only [own_T, own_R, Int32.lt_iff_toInt_lt, ← Int32.toInt_inj, Int32.reduceToInt]) <;> first | omega | (simp; done) | (simp; omega)) hx hby hml hown hnm hret hlk hZ (Stand.more X13 (by decide) (by decide)) (rfl : T13.heap = T13.heap) N13
theorem seg_57_1 (hw : HW a0 Z) (wc : Addr) (clc : Cell) (p1 p2 : Int32) (p3 p4 : Int32) (p5 n : Int32) (M : Addr) (mc : Int32) (r km vm : Addr) (ma va : Int32) (h0 : Heap) (n0 : Nat) (Z0 : n0 ≤ h0.size) (hN : Z.heap.size ≤ n0) (C1 : Sta Z Z.heap "java/lang/Integer$IntegerCache" "high" "I" (.int 127)) (C2 : Sta Z Z.heap "java/lang/Integer$IntegerCache" "cache" "[Ljava/lang/Integer;" (.ref wc)) (BX : Bxs Z wc clc "java/lang/Integer" "I" (256 : Int32) (fun j => .int (j - (128 : Int32)))) (KO : Keep Z.heap h0 []) (O_M : R_MP Z h0 M .null (.ref r) (.int 1) (.int mc)) (O_r : R_ND Z h0 r (.ref km) (.ref vm) .null .null .null (.int 0)) (O_km : R_IN Z h0 km (.int ma)) (O_vm : R_IN Z h0 vm (.int va)) (ne_M_r : M ≠ r) (ne_M_km : M ≠ km) (ne_M_vm : M ≠ vm) (ne_r_km : r ≠ km) (ne_r_vm : r ≠ vm) (g_M : n0 ≤ M) (g_r : n0 ≤ r) (hn : ¬ n = (0 : Int32)) (Tb : own_T n (2 : Int32) p3 p2 (0 : Int32) (1 : Int32) ma va) {p : Program} {e : Env} {s : State} {m : MethodId} {below : List Frame} {meth : Method} {c : Code} {args : Array Value} {s₁ : State} {lo : List Loc} (hx : p.tables.exec = Jvm.exec) (hby : c.code = code) (hml : c.maxLocals = maxLocals) (hown : s.vm.findClass "com/example/rosewood/rosewood/RosewoodMapFirstPinLaw" = some m.cls) (hnm : meth.name = "law") (hret : meth.sig.returnType = ret) (hlk : meth.locks = false) (hZ : Z.Warmed39 s.vm) (X0 : Stand p l e room_1 s m args below meth c s₁ lo 7 23) (e0 : s₁.heap = h0) (N0 : Fr n0 lo) :
    Go p e below (s₁.setTop (mkF m 57 #[vi p1, vi p2, vi p3, vi p4, vi p5, vi n, vr M, vu, vu, vu] [])) (FinE s room_1.cells room_1.slots (fun v h L => v = some (.int 1) ∧ Fr n0 L)) := by
  refine g_iload X0 hx (hb hby at_57) rfl ?_
  refine g_iconst X0 hx (3 : Int32) (hb hby at_59) (by decide) ?_
  by_cases c60_1 : n < (3 : Int32)
  · refine g_icmpYes X0 hx 77 (hb hby at_60) (tlt c60_1).1 (by decide) (by decide) ?_
    exact seg_77_1 hw wc clc p1 p2 p3 p4 p5 n M mc r km vm ma va ma va h0 n0 Z0 hN C1 C2 BX KO O_M O_r O_km O_vm ne_M_r ne_M_km ne_M_vm ne_r_km ne_r_vm g_M g_r hn Tb (by have u0 : ¬ (n = (0 : Int32)) := hn; have u1 : n < (3 : Int32) := c60_1; have u2 := hn; have u3 := Tb; (try simp only [own_T, own_R, Int32.lt_iff_toInt_lt, ← Int32.toInt_inj, Int32.reduceToInt] at u0 u1 u2 u3) <;> (try simp only [own_T, own_R, Int32.lt_iff_toInt_lt, ← Int32.toInt_inj, Int32.reduceToInt]) <;> first | omega | (simp; done) | (simp; omega)) hx hby hml hown hnm hret hlk hZ (Stand.more X0 (by decide) (by decide)) e0 N0
  · refine g_icmpNo X0 hx (hb hby at_60) (flt c60_1).1 ?_
    refine g_aload X0 hx (hb hby at_63) rfl rfl ?_
    refine g_iloadN X0 hx (hb hby at_65) rfl ?_
    refine g_S X0 hx hZ hown (lk5 hw) (rm_valueOf hw wc clc p4 h0 n0 Z0 hN C1 C2 BX KO) e0 (hb hby at_66) hml.symm rfl (rest := [(.ref M)]) rfl (W := 1) (Nat.le_of_eq rfl) (by decide) (fun v2 T2 L2 X2 q2 => ?_)
    obtain ⟨b2, rfl, M2, Kc2, O2⟩ := q2
    have N2 := Fr.app N0 M2
    have O_M_2 := R_MP_keep O_M Kc2 nl
    have O_r_2 := R_ND_keep O_r Kc2 nl
    have O_km_2 := R_IN_keep O_km Kc2 nl
    have O_vm_2 := R_IN_keep O_vm Kc2 nl
    have KO_2 := Keep.trans KO Kc2 own_memn
    have ne_M_b2 : M ≠ b2 := own_exane O_M_2.1 O2.1 (by decide)
    have ne_r_b2 : r ≠ b2 := own_exane O_r_2.1 O2.1 (by decide)
    have Z2 : n0 ≤ T2.heap.size := Nat.le_trans Z0 Kc2.1
    refine g_iconst X2 hx (2 : Int32) (hb hby at_69) (by decide) ?_
    refine g_S X2 hx hZ hown (lk5 hw) (rm_valueOf hw wc clc (2 : Int32) T2.heap n0 Z2 hN C1 C2 BX KO_2) (rfl : T2.heap = T2.heap) (hb hby at_70) hml.symm rfl (rest := [(.ref b2), (.ref M)]) rfl (W := 2) (Nat.le_of_eq rfl) (by decide) (fun v3 T3 L3 X3 q3 => ?_)
    obtain ⟨b3, rfl, M3, Kc3, O3⟩ := q3
    have N3 := Fr.app N2 M3
    have O_M_3 := R_MP_keep O_M_2 Kc3 nl
    have O_r_3 := R_ND_keep O_r_2 Kc3 nl
    have O_km_3 := R_IN_keep O_km_2 Kc3 nl
    have O_vm_3 := R_IN_keep O_vm_2 Kc3 nl
    have KO_3 := Keep.trans KO_2 Kc3 own_memn
    have O_b2_3 := R_IN_keep O2 Kc3 nl
    have ne_M_b3 : M ≠ b3 := own_exane O_M_3.1 O3.1 (by decide)
    have ne_r_b3 : r ≠ b3 := own_exane O_r_3.1 O3.1 (by decide)
    have Z3 : n0 ≤ T3.heap.size := Nat.le_trans Z2 Kc3.1
    rcases own_tri p4 ma with t73_4 | ⟨t73_4, t73_4'⟩ | ⟨t73_4, t73_4'⟩
    · refine g_V X3 hx hZ hown (lk19 hw) (rm_put_10 hw M b2 b3 r mc p4 km vm ma T3.heap n0 Z3 O_M_3 O_b2_3 O_r_3 O_km_3 ne_M_r g_M g_r t73_4) (rfl : T3.heap = T3.heap) O_M_3.1 (hb hby at_73) hml.symm rfl rfl (Nat.le_refl _) (by decide) (fun v5 T5 L5 X5 q5 => ?_)
      obtain ⟨b5_0, rfl, M5, Kc5, zb5_0, Rk5_0, Rk5_1, Rk5_2⟩ := q5
      have N5 := Fr.app N3 M5
      have ne_M_b5_0 : M ≠ b5_0 := Nat.ne_of_lt (Nat.lt_of_lt_of_le O_M_3.1.lt zb5_0)
      have ne_r_b5_0 : r ≠ b5_0 := Nat.ne_of_lt (Nat.lt_of_lt_of_le O_r_3.1.lt zb5_0)
      have ne_km_b5_0 : km ≠ b5_0 := Nat.ne_of_lt (Nat.lt_of_lt_of_le O_km_3.1.lt zb5_0)
      have ne_b2_b5_0 : b2 ≠ b5_0 := Nat.ne_of_lt (Nat.lt_of_lt_of_le O_b2_3.1.lt zb5_0)
      have ne_b3_b5_0 : b3 ≠ b5_0 := Nat.ne_of_lt (Nat.lt_of_lt_of_le O3.1.lt zb5_0)
      have g_b5_0 : n0 ≤ b5_0 := Nat.le_trans Z3 zb5_0
      have O_km_5 := R_IN_keep O_km_3 Kc5 (own_nin ne_M_km.symm (own_nin ne_r_km.symm nl))
      have KO_5 := Keep.trans KO_3 Kc5 (own_memc (Or.inr (Nat.le_trans hN g_M)) (own_memc (Or.inr (Nat.le_trans hN g_r)) own_memn))
      have O_b2_5 := R_IN_keep O_b2_3 Kc5 (own_nin ne_M_b2.symm (own_nin ne_r_b2.symm nl))
      have O_b3_5 := R_IN_keep O3 Kc5 (own_nin ne_M_b3.symm (own_nin ne_r_b3.symm nl))
      have Z5 : n0 ≤ T5.heap.size := Nat.le_trans Z3 Kc5.1
      refine g_pop X5 hx (hb hby at_76) rfl ?_
      exact seg_77_2L hw wc clc p1 p2 p3 p4 p5 n M (mc + (1 : Int32)) r b5_0 km vm ma b2 b3 p4 (2 : Int32) ma va T5.heap n0 Z5 hN C1 C2 BX KO_5 Rk5_0 Rk5_1 Rk5_2 O_km_5 O_b2_5 O_b3_5 ne_M_r ne_M_b5_0 ne_M_km ne_M_b2 ne_M_b3 ne_r_b5_0 ne_r_km ne_r_b2 ne_r_b3 ne_km_b5_0.symm ne_b2_b5_0.symm ne_b3_b5_0.symm g_M g_r g_b5_0 hn t73_4 Tb (by have u0 : ¬ (n = (0 : Int32)) := hn; have u1 : ¬ (n < (3 : Int32)) := c60_1; have u2 : p4 < ma := t73_4; have u3 := hn; have u4 := Tb; (try simp only [own_T, own_R, Int32.lt_iff_toInt_lt, ← Int32.toInt_inj, Int32.reduceToInt] at u0 u1 u2 u3 u4) <;> (try simp only [own_T, own_R, Int32.lt_iff_toInt_lt, ← Int32.toInt_inj, Int32.reduceToInt]) <;> first | omega | (simp; done) | (simp; omega)) hx hby hml hown hnm hret hlk hZ (Stand.more X5 (by decide) (by decide)) (rfl : T5.heap = T5.heap) N5
    · refine g_V X3 hx hZ hown (lk19 hw) (rm_put_24 hw M b2 b3 r mc p4 km vm ma T3.heap n0 Z3 O_M_3 O_b2_3 O_r_3 O_km_3 g_r t73_4 t73_4') (rfl : T3.heap = T3.heap) O_M_3.1 (hb hby at_73) hml.symm rfl rfl (Nat.le_refl _) (by decide) (fun v6 T6 L6 X6 q6 => ?_)
      obtain ⟨rfl, M6, Kc6, Rk6_0⟩ := q6
      have N6 := Fr.app N3 M6
      have O_M_6 := R_MP_keep O_M_3 Kc6 (own_nin ne_M_r nl)
      have O_km_6 := R_IN_keep O_km_3 Kc6 (own_nin ne_r_km.symm nl)
      have KO_6 := Keep.trans KO_3 Kc6 (own_memc (Or.inr (Nat.le_trans hN g_r)) own_memn)
      have O_b3_6 := R_IN_keep O3 Kc6 (own_nin ne_r_b3.symm nl)
      have Z6 : n0 ≤ T6.heap.size := Nat.le_trans Z3 Kc6.1
      refine g_pop X6 hx (hb hby at_76) rfl ?_
      exact seg_77_1 hw wc clc p1 p2 p3 p4 p5 n M mc r km b3 ma (2 : Int32) ma va T6.heap n0 Z6 hN C1 C2 BX KO_6 O_M_6 Rk6_0 O_km_6 O_b3_6 ne_M_r ne_M_km ne_M_b3 ne_r_km ne_r_b3 g_M g_r hn Tb (by have u0 : ¬ (n = (0 : Int32)) := hn; have u1 : ¬ (n < (3 : Int32)) := c60_1; have u2 : ¬ (p4 < ma) := t73_4; have u3 : p4 = ma := t73_4'; have u4 := hn; have u5 := Tb; (try simp only [own_T, own_R, Int32.lt_iff_toInt_lt, ← Int32.toInt_inj, Int32.reduceToInt] at u0 u1 u2 u3 u4 u5) <;> (try simp only [own_T, own_R, Int32.lt_iff_toInt_lt, ← Int32.toInt_inj, Int32.reduceToInt]) <;> first | omega | (simp; done) | (simp; omega)) hx hby hml hown hnm hret hlk hZ (Stand.more X6 (by decide) (by decide)) (rfl : T6.heap = T6.heap) N6
    · refine g_V X3 hx hZ hown (lk19 hw) (rm_put_33 hw M b2 b3 r mc p4 km vm ma T3.heap n0 Z3 O_M_3 O_b2_3 O_r_3 O_km_3 ne_M_r g_M g_r t73_4 t73_4') (rfl : T3.heap = T3.heap) O_M_3.1 (hb hby at_73) hml.symm rfl rfl (Nat.le_refl _) (by decide) (fun v7 T7 L7 X7 q7 => ?_)
      obtain ⟨b7_0, rfl, M7, Kc7, zb7_0, Rk7_0, Rk7_1, Rk7_2⟩ := q7
      have N7 := Fr.app N3 M7
      have ne_M_b7_0 : M ≠ b7_0 := Nat.ne_of_lt (Nat.lt_of_lt_of_le O_M_3.1.lt zb7_0)
      have ne_r_b7_0 : r ≠ b7_0 := Nat.ne_of_lt (Nat.lt_of_lt_of_le O_r_3.1.lt zb7_0)
      have ne_km_b7_0 : km ≠ b7_0 := Nat.ne_of_lt (Nat.lt_of_lt_of_le O_km_3.1.lt zb7_0)
      have ne_vm_b7_0 : vm ≠ b7_0 := Nat.ne_of_lt (Nat.lt_of_lt_of_le O_vm_3.1.lt zb7_0)
      have ne_b2_b7_0 : b2 ≠ b7_0 := Nat.ne_of_lt (Nat.lt_of_lt_of_le O_b2_3.1.lt zb7_0)
      have g_b7_0 : n0 ≤ b7_0 := Nat.le_trans Z3 zb7_0
      have O_km_7 := R_IN_keep O_km_3 Kc7 (own_nin ne_M_km.symm (own_nin ne_r_km.symm nl))
      have O_vm_7 := R_IN_keep O_vm_3 Kc7 (own_nin ne_M_vm.symm (own_nin ne_r_vm.symm nl))
      have KO_7 := Keep.trans KO_3 Kc7 (own_memc (Or.inr (Nat.le_trans hN g_M)) (own_memc (Or.inr (Nat.le_trans hN g_r)) own_memn))
      have O_b2_7 := R_IN_keep O_b2_3 Kc7 (own_nin ne_M_b2.symm (own_nin ne_r_b2.symm nl))
      have Z7 : n0 ≤ T7.heap.size := Nat.le_trans Z3 Kc7.1
      refine g_pop X7 hx (hb hby at_76) rfl ?_
      exact seg_77_2R hw wc clc p1 p2 p3 p4 p5 n M (mc + (1 : Int32)) r b7_0 b2 b3 p4 km vm ma va ma va T7.heap n0 Z7 hN C1 C2 BX KO_7 Rk7_0 Rk7_1 Rk7_2 O_b2_7 O_km_7 O_vm_7 ne_M_r ne_M_b7_0 ne_M_b2 ne_M_km ne_M_vm ne_r_b7_0 ne_r_b2 ne_r_km ne_r_vm ne_b2_b7_0.symm ne_km_b7_0.symm ne_vm_b7_0.symm g_M g_r g_b7_0 hn (by have u0 : ¬ (n = (0 : Int32)) := hn; have u1 : ¬ (n < (3 : Int32)) := c60_1; have u2 : ¬ (p4 < ma) := t73_4; have u3 : ¬ (p4 = ma) := t73_4'; have u4 := hn; have u5 := Tb; (try simp only [own_T, own_R, Int32.lt_iff_toInt_lt, ← Int32.toInt_inj, Int32.reduceToInt] at u0 u1 u2 u3 u4 u5) <;> (try simp only [own_T, own_R, Int32.lt_iff_toInt_lt, ← Int32.toInt_inj, Int32.reduceToInt]) <;> first | omega | (simp; done) | (simp; omega)) Tb (by have u0 : ¬ (n = (0 : Int32)) := hn; have u1 : ¬ (n < (3 : Int32)) := c60_1; have u2 : ¬ (p4 < ma) := t73_4; have u3 : ¬ (p4 = ma) := t73_4'; have u4 := hn; have u5 := Tb; (try simp only [own_T, own_R, Int32.lt_iff_toInt_lt, ← Int32.toInt_inj, Int32.reduceToInt] at u0 u1 u2 u3 u4 u5) <;> (try simp only [own_T, own_R, Int32.lt_iff_toInt_lt, ← Int32.toInt_inj, Int32.reduceToInt]) <;> first | omega | (simp; done) | (simp; omega)) hx hby hml hown hnm hret hlk hZ (Stand.more X7 (by decide) (by decide)) (rfl : T7.heap = T7.heap) N7
theorem seg_57_2L (hw : HW a0 Z) (wc : Addr) (clc : Cell) (p1 p2 : Int32) (p3 p4 : Int32) (p5 n : Int32) (M : Addr) (mc : Int32) (r t : Addr) (kx vx : Addr) (x : Int32) (km vm : Addr) (ma va : Int32) (h0 : Heap) (n0 : Nat) (Z0 : n0 ≤ h0.size) (hN : Z.heap.size ≤ n0) (C1 : Sta Z Z.heap "java/lang/Integer$IntegerCache" "high" "I" (.int 127)) (C2 : Sta Z Z.heap "java/lang/Integer$IntegerCache" "cache" "[Ljava/lang/Integer;" (.ref wc)) (BX : Bxs Z wc clc "java/lang/Integer" "I" (256 : Int32) (fun j => .int (j - (128 : Int32)))) (KO : Keep Z.heap h0 []) (O_M : R_MP Z h0 M .null (.ref r) (.int 2) (.int mc)) (O_r : R_ND Z h0 r (.ref kx) (.ref vx) (.ref t) .null .null (.int 1)) (O_t : R_ND Z h0 t (.ref km) (.ref vm) .null .null (.ref r) (.int (-2147483648))) (O_kx : R_IN Z h0 kx (.int x)) (O_km : R_IN Z h0 km (.int ma)) (O_vm : R_IN Z h0 vm (.int va)) (ne_M_r : M ≠ r) (ne_M_t : M ≠ t) (ne_M_kx : M ≠ kx) (ne_M_km : M ≠ km) (ne_M_vm : M ≠ vm) (ne_r_t : r ≠ t) (ne_r_kx : r ≠ kx) (ne_r_km : r ≠ km) (ne_r_vm : r ≠ vm) (ne_t_kx : t ≠ kx) (ne_t_km : t ≠ km) (ne_t_vm : t ≠ vm) (g_M : n0 ≤ M) (g_r : n0 ≤ r) (g_t : n0 ≤ t) (hn : ¬ n = (0 : Int32)) (ho : ma < x) (Tb : own_T n (2 : Int32) p3 p2 (0 : Int32) (1 : Int32) ma va) {p : Program} {e : Env} {s : State} {m : MethodId} {below : List Frame} {meth : Method} {c : Code} {args : Array Value} {s₁ : State} {lo : List Loc} (hx : p.tables.exec = Jvm.exec) (hby : c.code = code) (hml : c.maxLocals = maxLocals) (hown : s.vm.findClass "com/example/rosewood/rosewood/RosewoodMapFirstPinLaw" = some m.cls) (hnm : meth.name = "law") (hret : meth.sig.returnType = ret) (hlk : meth.locks = false) (hZ : Z.Warmed39 s.vm) (X0 : Stand p l e room_1 s m args below meth c s₁ lo 7 23) (e0 : s₁.heap = h0) (N0 : Fr n0 lo) :
    Go p e below (s₁.setTop (mkF m 57 #[vi p1, vi p2, vi p3, vi p4, vi p5, vi n, vr M, vu, vu, vu] [])) (FinE s room_1.cells room_1.slots (fun v h L => v = some (.int 1) ∧ Fr n0 L)) := by
  refine g_iload X0 hx (hb hby at_57) rfl ?_
  refine g_iconst X0 hx (3 : Int32) (hb hby at_59) (by decide) ?_
  by_cases c60_1 : n < (3 : Int32)
  · refine g_icmpYes X0 hx 77 (hb hby at_60) (tlt c60_1).1 (by decide) (by decide) ?_
    exact seg_77_2L hw wc clc p1 p2 p3 p4 p5 n M mc r t kx vx x km vm ma va ma va h0 n0 Z0 hN C1 C2 BX KO O_M O_r O_t O_kx O_km O_vm ne_M_r ne_M_t ne_M_kx ne_M_km ne_M_vm ne_r_t ne_r_kx ne_r_km ne_r_vm ne_t_kx ne_t_km ne_t_vm g_M g_r g_t hn ho Tb (by have u0 : ¬ (n = (0 : Int32)) := hn; have u1 : n < (3 : Int32) := c60_1; have u2 := hn; have u3 := ho; have u4 := Tb; (try simp only [own_T, own_R, Int32.lt_iff_toInt_lt, ← Int32.toInt_inj, Int32.reduceToInt] at u0 u1 u2 u3 u4) <;> (try simp only [own_T, own_R, Int32.lt_iff_toInt_lt, ← Int32.toInt_inj, Int32.reduceToInt]) <;> first | omega | (simp; done) | (simp; omega)) hx hby hml hown hnm hret hlk hZ (Stand.more X0 (by decide) (by decide)) e0 N0
  · refine g_icmpNo X0 hx (hb hby at_60) (flt c60_1).1 ?_
    refine g_aload X0 hx (hb hby at_63) rfl rfl ?_
    refine g_iloadN X0 hx (hb hby at_65) rfl ?_
    refine g_S X0 hx hZ hown (lk5 hw) (rm_valueOf hw wc clc p4 h0 n0 Z0 hN C1 C2 BX KO) e0 (hb hby at_66) hml.symm rfl (rest := [(.ref M)]) rfl (W := 1) (Nat.le_of_eq rfl) (by decide) (fun v2 T2 L2 X2 q2 => ?_)
    obtain ⟨b2, rfl, M2, Kc2, O2⟩ := q2
    have N2 := Fr.app N0 M2
    have O_M_2 := R_MP_keep O_M Kc2 nl
    have O_r_2 := R_ND_keep O_r Kc2 nl
    have O_t_2 := R_ND_keep O_t Kc2 nl
    have O_kx_2 := R_IN_keep O_kx Kc2 nl
    have O_km_2 := R_IN_keep O_km Kc2 nl
    have O_vm_2 := R_IN_keep O_vm Kc2 nl
    have KO_2 := Keep.trans KO Kc2 own_memn
    have ne_M_b2 : M ≠ b2 := own_exane O_M_2.1 O2.1 (by decide)
    have ne_r_b2 : r ≠ b2 := own_exane O_r_2.1 O2.1 (by decide)
    have ne_t_b2 : t ≠ b2 := own_exane O_t_2.1 O2.1 (by decide)
    have Z2 : n0 ≤ T2.heap.size := Nat.le_trans Z0 Kc2.1
    refine g_iconst X2 hx (2 : Int32) (hb hby at_69) (by decide) ?_
    refine g_S X2 hx hZ hown (lk5 hw) (rm_valueOf hw wc clc (2 : Int32) T2.heap n0 Z2 hN C1 C2 BX KO_2) (rfl : T2.heap = T2.heap) (hb hby at_70) hml.symm rfl (rest := [(.ref b2), (.ref M)]) rfl (W := 2) (Nat.le_of_eq rfl) (by decide) (fun v3 T3 L3 X3 q3 => ?_)
    obtain ⟨b3, rfl, M3, Kc3, O3⟩ := q3
    have N3 := Fr.app N2 M3
    have O_M_3 := R_MP_keep O_M_2 Kc3 nl
    have O_r_3 := R_ND_keep O_r_2 Kc3 nl
    have O_t_3 := R_ND_keep O_t_2 Kc3 nl
    have O_kx_3 := R_IN_keep O_kx_2 Kc3 nl
    have O_km_3 := R_IN_keep O_km_2 Kc3 nl
    have O_vm_3 := R_IN_keep O_vm_2 Kc3 nl
    have KO_3 := Keep.trans KO_2 Kc3 own_memn
    have O_b2_3 := R_IN_keep O2 Kc3 nl
    have ne_M_b3 : M ≠ b3 := own_exane O_M_3.1 O3.1 (by decide)
    have ne_r_b3 : r ≠ b3 := own_exane O_r_3.1 O3.1 (by decide)
    have ne_t_b3 : t ≠ b3 := own_exane O_t_3.1 O3.1 (by decide)
    have Z3 : n0 ≤ T3.heap.size := Nat.le_trans Z2 Kc3.1
    rcases own_tri p4 x with t73_4 | ⟨t73_4, t73_4'⟩ | ⟨t73_4, t73_4'⟩
    · rcases own_tri p4 ma with t73_5 | ⟨t73_5, t73_5'⟩ | ⟨t73_5, t73_5'⟩
      · refine g_V X3 hx hZ hown (lk19 hw) (rm_put_42 hw M b2 b3 r mc p4 kx vx t x km vm ma T3.heap n0 Z3 O_M_3 O_b2_3 O_r_3 O_kx_3 O_t_3 O_km_3 ne_M_r ne_M_t ne_r_b2.symm ne_r_t ne_r_km g_M g_r g_t t73_4 t73_5) (rfl : T3.heap = T3.heap) O_M_3.1 (hb hby at_73) hml.symm rfl rfl (Nat.le_refl _) (by decide) (fun v6 T6 L6 X6 q6 => ?_)
        obtain ⟨b6_0, rfl, M6, Kc6, zb6_0, Rk6_0, Rk6_1, Rk6_2, Rk6_3⟩ := q6
        have N6 := Fr.app N3 M6
        have ne_M_b6_0 : M ≠ b6_0 := Nat.ne_of_lt (Nat.lt_of_lt_of_le O_M_3.1.lt zb6_0)
        have ne_r_b6_0 : r ≠ b6_0 := Nat.ne_of_lt (Nat.lt_of_lt_of_le O_r_3.1.lt zb6_0)
        have ne_t_b6_0 : t ≠ b6_0 := Nat.ne_of_lt (Nat.lt_of_lt_of_le O_t_3.1.lt zb6_0)
        have ne_kx_b6_0 : kx ≠ b6_0 := Nat.ne_of_lt (Nat.lt_of_lt_of_le O_kx_3.1.lt zb6_0)
        have ne_km_b6_0 : km ≠ b6_0 := Nat.ne_of_lt (Nat.lt_of_lt_of_le O_km_3.1.lt zb6_0)
        have ne_b2_b6_0 : b2 ≠ b6_0 := Nat.ne_of_lt (Nat.lt_of_lt_of_le O_b2_3.1.lt zb6_0)
        have ne_b3_b6_0 : b3 ≠ b6_0 := Nat.ne_of_lt (Nat.lt_of_lt_of_le O3.1.lt zb6_0)
        have g_b6_0 : n0 ≤ b6_0 := Nat.le_trans Z3 zb6_0
        have O_kx_6 := R_IN_keep O_kx_3 Kc6 (own_nin ne_M_kx.symm (own_nin ne_r_kx.symm (own_nin ne_t_kx.symm nl)))
        have O_km_6 := R_IN_keep O_km_3 Kc6 (own_nin ne_M_km.symm (own_nin ne_r_km.symm (own_nin ne_t_km.symm nl)))
        have KO_6 := Keep.trans KO_3 Kc6 (own_memc (Or.inr (Nat.le_trans hN g_M)) (own_memc (Or.inr (Nat.le_trans hN g_r)) (own_memc (Or.inr (Nat.le_trans hN g_t)) own_memn)))
        have O_b2_6 := R_IN_keep O_b2_3 Kc6 (own_nin ne_M_b2.symm (own_nin ne_r_b2.symm (own_nin ne_t_b2.symm nl)))
        have O_b3_6 := R_IN_keep O3 Kc6 (own_nin ne_M_b3.symm (own_nin ne_r_b3.symm (own_nin ne_t_b3.symm nl)))
        have Z6 : n0 ≤ T6.heap.size := Nat.le_trans Z3 Kc6.1
        refine g_pop X6 hx (hb hby at_76) rfl ?_
        exact seg_77_3 hw wc clc p1 p2 p3 p4 p5 n M (mc + (1 : Int32)) t b6_0 r km vm ma kx vx x b2 b3 p4 (2 : Int32) ma va T6.heap n0 Z6 hN C1 C2 BX KO_6 Rk6_0 Rk6_2 Rk6_3 Rk6_1 O_km_6 O_kx_6 O_b2_6 O_b3_6 ne_M_t ne_M_b6_0 ne_M_r ne_M_km ne_M_kx ne_M_b2 ne_M_b3 ne_t_b6_0 ne_r_t.symm ne_t_km ne_t_kx ne_t_b2 ne_t_b3 ne_r_b6_0.symm ne_km_b6_0.symm ne_kx_b6_0.symm ne_b2_b6_0.symm ne_b3_b6_0.symm ne_r_km ne_r_kx ne_r_b2 ne_r_b3 g_M g_t g_b6_0 g_r hn t73_5 Tb (by have u0 : ¬ (n = (0 : Int32)) := hn; have u1 : ¬ (n < (3 : Int32)) := c60_1; have u2 : p4 < x := t73_4; have u3 : p4 < ma := t73_5; have u4 := hn; have u5 := ho; have u6 := Tb; (try simp only [own_T, own_R, Int32.lt_iff_toInt_lt, ← Int32.toInt_inj, Int32.reduceToInt] at u0 u1 u2 u3 u4 u5 u6) <;> (try simp only [own_T, own_R, Int32.lt_iff_toInt_lt, ← Int32.toInt_inj, Int32.reduceToInt]) <;> first | omega | (simp; done) | (simp; omega)) hx hby hml hown hnm hret hlk hZ (Stand.more X6 (by decide) (by decide)) (rfl : T6.heap = T6.heap) N6
      · refine g_V X3 hx hZ hown (lk19 hw) (rm_put_60 hw M b2 b3 r mc p4 kx vx t x km vm ma T3.heap n0 Z3 O_M_3 O_b2_3 O_r_3 O_kx_3 O_t_3 O_km_3 ne_M_r ne_r_b2.symm ne_r_t ne_r_km g_r g_t t73_4 t73_5 t73_5') (rfl : T3.heap = T3.heap) O_M_3.1 (hb hby at_73) hml.symm rfl rfl (Nat.le_refl _) (by decide) (fun v7 T7 L7 X7 q7 => ?_)
        obtain ⟨rfl, M7, Kc7, Rk7_0, Rk7_1⟩ := q7
        have N7 := Fr.app N3 M7
        have O_M_7 := R_MP_keep O_M_3 Kc7 (own_nin ne_M_r (own_nin ne_M_t nl))
        have O_kx_7 := R_IN_keep O_kx_3 Kc7 (own_nin ne_r_kx.symm (own_nin ne_t_kx.symm nl))
        have O_km_7 := R_IN_keep O_km_3 Kc7 (own_nin ne_r_km.symm (own_nin ne_t_km.symm nl))
        have KO_7 := Keep.trans KO_3 Kc7 (own_memc (Or.inr (Nat.le_trans hN g_r)) (own_memc (Or.inr (Nat.le_trans hN g_t)) own_memn))
        have O_b3_7 := R_IN_keep O3 Kc7 (own_nin ne_r_b3.symm (own_nin ne_t_b3.symm nl))
        have Z7 : n0 ≤ T7.heap.size := Nat.le_trans Z3 Kc7.1
        refine g_pop X7 hx (hb hby at_76) rfl ?_
        exact seg_77_2L hw wc clc p1 p2 p3 p4 p5 n M mc r t kx vx x km b3 ma (2 : Int32) ma va T7.heap n0 Z7 hN C1 C2 BX KO_7 O_M_7 Rk7_0 Rk7_1 O_kx_7 O_km_7 O_b3_7 ne_M_r ne_M_t ne_M_kx ne_M_km ne_M_b3 ne_r_t ne_r_kx ne_r_km ne_r_b3 ne_t_kx ne_t_km ne_t_b3 g_M g_r g_t hn ho Tb (by have u0 : ¬ (n = (0 : Int32)) := hn; have u1 : ¬ (n < (3 : Int32)) := c60_1; have u2 : p4 < x := t73_4; have u3 : ¬ (p4 < ma) := t73_5; have u4 : p4 = ma := t73_5'; have u5 := hn; have u6 := ho; have u7 := Tb; (try simp only [own_T, own_R, Int32.lt_iff_toInt_lt, ← Int32.toInt_inj, Int32.reduceToInt] at u0 u1 u2 u3 u4 u5 u6 u7) <;> (try simp only [own_T, own_R, Int32.lt_iff_toInt_lt, ← Int32.toInt_inj, Int32.reduceToInt]) <;> first | omega | (simp; done) | (simp; omega)) hx hby hml hown hnm hret hlk hZ (Stand.more X7 (by decide) (by decide)) (rfl : T7.heap = T7.heap) N7
      · refine g_V X3 hx hZ hown (lk19 hw) (rm_put_68 hw M b2 b3 r mc p4 kx vx t x km vm ma T3.heap n0 Z3 O_M_3 O_b2_3 O_r_3 O_kx_3 O_t_3 O_km_3 ne_M_r ne_M_t ne_r_b2.symm ne_r_t ne_r_km g_M g_r g_t t73_4 t73_5 t73_5') (rfl : T3.heap = T3.heap) O_M_3.1 (hb hby at_73) hml.symm rfl rfl (Nat.le_refl _) (by decide) (fun v8 T8 L8 X8 q8 => ?_)
        obtain ⟨b8_0, rfl, M8, Kc8, zb8_0, Rk8_0, Rk8_1, Rk8_2, Rk8_3⟩ := q8
        have N8 := Fr.app N3 M8
        have ne_M_b8_0 : M ≠ b8_0 := Nat.ne_of_lt (Nat.lt_of_lt_of_le O_M_3.1.lt zb8_0)
        have ne_r_b8_0 : r ≠ b8_0 := Nat.ne_of_lt (Nat.lt_of_lt_of_le O_r_3.1.lt zb8_0)
        have ne_t_b8_0 : t ≠ b8_0 := Nat.ne_of_lt (Nat.lt_of_lt_of_le O_t_3.1.lt zb8_0)
        have ne_kx_b8_0 : kx ≠ b8_0 := Nat.ne_of_lt (Nat.lt_of_lt_of_le O_kx_3.1.lt zb8_0)
        have ne_km_b8_0 : km ≠ b8_0 := Nat.ne_of_lt (Nat.lt_of_lt_of_le O_km_3.1.lt zb8_0)
        have ne_vm_b8_0 : vm ≠ b8_0 := Nat.ne_of_lt (Nat.lt_of_lt_of_le O_vm_3.1.lt zb8_0)
        have ne_b2_b8_0 : b2 ≠ b8_0 := Nat.ne_of_lt (Nat.lt_of_lt_of_le O_b2_3.1.lt zb8_0)
        have g_b8_0 : n0 ≤ b8_0 := Nat.le_trans Z3 zb8_0
        have O_kx_8 := R_IN_keep O_kx_3 Kc8 (own_nin ne_M_kx.symm (own_nin ne_r_kx.symm (own_nin ne_t_kx.symm nl)))
        have O_km_8 := R_IN_keep O_km_3 Kc8 (own_nin ne_M_km.symm (own_nin ne_r_km.symm (own_nin ne_t_km.symm nl)))
        have O_vm_8 := R_IN_keep O_vm_3 Kc8 (own_nin ne_M_vm.symm (own_nin ne_r_vm.symm (own_nin ne_t_vm.symm nl)))
        have KO_8 := Keep.trans KO_3 Kc8 (own_memc (Or.inr (Nat.le_trans hN g_M)) (own_memc (Or.inr (Nat.le_trans hN g_r)) (own_memc (Or.inr (Nat.le_trans hN g_t)) own_memn)))
        have O_b2_8 := R_IN_keep O_b2_3 Kc8 (own_nin ne_M_b2.symm (own_nin ne_r_b2.symm (own_nin ne_t_b2.symm nl)))
        have Z8 : n0 ≤ T8.heap.size := Nat.le_trans Z3 Kc8.1
        refine g_pop X8 hx (hb hby at_76) rfl ?_
        exact seg_77_3 hw wc clc p1 p2 p3 p4 p5 n M (mc + (1 : Int32)) b8_0 t r b2 b3 p4 kx vx x km vm ma va ma va T8.heap n0 Z8 hN C1 C2 BX KO_8 Rk8_0 Rk8_3 Rk8_2 Rk8_1 O_b2_8 O_kx_8 O_km_8 O_vm_8 ne_M_b8_0 ne_M_t ne_M_r ne_M_b2 ne_M_kx ne_M_km ne_M_vm ne_t_b8_0.symm ne_r_b8_0.symm ne_b2_b8_0.symm ne_kx_b8_0.symm ne_km_b8_0.symm ne_vm_b8_0.symm ne_r_t.symm ne_t_b2 ne_t_kx ne_t_km ne_t_vm ne_r_b2 ne_r_kx ne_r_km ne_r_vm g_M g_b8_0 g_t g_r hn (by have u0 : ¬ (n = (0 : Int32)) := hn; have u1 : ¬ (n < (3 : Int32)) := c60_1; have u2 : p4 < x := t73_4; have u3 : ¬ (p4 < ma) := t73_5; have u4 : ¬ (p4 = ma) := t73_5'; have u5 := hn; have u6 := ho; have u7 := Tb; (try simp only [own_T, own_R, Int32.lt_iff_toInt_lt, ← Int32.toInt_inj, Int32.reduceToInt] at u0 u1 u2 u3 u4 u5 u6 u7) <;> (try simp only [own_T, own_R, Int32.lt_iff_toInt_lt, ← Int32.toInt_inj, Int32.reduceToInt]) <;> first | omega | (simp; done) | (simp; omega)) Tb (by have u0 : ¬ (n = (0 : Int32)) := hn; have u1 : ¬ (n < (3 : Int32)) := c60_1; have u2 : p4 < x := t73_4; have u3 : ¬ (p4 < ma) := t73_5; have u4 : ¬ (p4 = ma) := t73_5'; have u5 := hn; have u6 := ho; have u7 := Tb; (try simp only [own_T, own_R, Int32.lt_iff_toInt_lt, ← Int32.toInt_inj, Int32.reduceToInt] at u0 u1 u2 u3 u4 u5 u6 u7) <;> (try simp only [own_T, own_R, Int32.lt_iff_toInt_lt, ← Int32.toInt_inj, Int32.reduceToInt]) <;> first | omega | (simp; done) | (simp; omega)) hx hby hml hown hnm hret hlk hZ (Stand.more X8 (by decide) (by decide)) (rfl : T8.heap = T8.heap) N8
    · refine g_V X3 hx hZ hown (lk19 hw) (rm_put_79 hw M b2 b3 r mc p4 kx vx t x km vm T3.heap n0 Z3 O_M_3 O_b2_3 O_r_3 O_kx_3 O_t_3 g_r t73_4 t73_4') (rfl : T3.heap = T3.heap) O_M_3.1 (hb hby at_73) hml.symm rfl rfl (Nat.le_refl _) (by decide) (fun v9 T9 L9 X9 q9 => ?_)
      obtain ⟨rfl, M9, Kc9, Rk9_0⟩ := q9
      have N9 := Fr.app N3 M9
      have O_M_9 := R_MP_keep O_M_3 Kc9 (own_nin ne_M_r nl)
      have O_t_9 := R_ND_keep O_t_3 Kc9 (own_nin ne_r_t.symm nl)
      have O_kx_9 := R_IN_keep O_kx_3 Kc9 (own_nin ne_r_kx.symm nl)
      have O_km_9 := R_IN_keep O_km_3 Kc9 (own_nin ne_r_km.symm nl)
      have O_vm_9 := R_IN_keep O_vm_3 Kc9 (own_nin ne_r_vm.symm nl)
      have KO_9 := Keep.trans KO_3 Kc9 (own_memc (Or.inr (Nat.le_trans hN g_r)) own_memn)
      have Z9 : n0 ≤ T9.heap.size := Nat.le_trans Z3 Kc9.1
      refine g_pop X9 hx (hb hby at_76) rfl ?_
      exact seg_77_2L hw wc clc p1 p2 p3 p4 p5 n M mc r t kx b3 x km vm ma va ma va T9.heap n0 Z9 hN C1 C2 BX KO_9 O_M_9 Rk9_0 O_t_9 O_kx_9 O_km_9 O_vm_9 ne_M_r ne_M_t ne_M_kx ne_M_km ne_M_vm ne_r_t ne_r_kx ne_r_km ne_r_vm ne_t_kx ne_t_km ne_t_vm g_M g_r g_t hn ho Tb (by have u0 : ¬ (n = (0 : Int32)) := hn; have u1 : ¬ (n < (3 : Int32)) := c60_1; have u2 : ¬ (p4 < x) := t73_4; have u3 : p4 = x := t73_4'; have u4 := hn; have u5 := ho; have u6 := Tb; (try simp only [own_T, own_R, Int32.lt_iff_toInt_lt, ← Int32.toInt_inj, Int32.reduceToInt] at u0 u1 u2 u3 u4 u5 u6) <;> (try simp only [own_T, own_R, Int32.lt_iff_toInt_lt, ← Int32.toInt_inj, Int32.reduceToInt]) <;> first | omega | (simp; done) | (simp; omega)) hx hby hml hown hnm hret hlk hZ (Stand.more X9 (by decide) (by decide)) (rfl : T9.heap = T9.heap) N9
    · refine g_V X3 hx hZ hown (lk19 hw) (rm_put_83 hw M b2 b3 r mc p4 kx vx t x km vm T3.heap n0 Z3 O_M_3 O_b2_3 O_r_3 O_kx_3 O_t_3 ne_M_r g_M g_r t73_4 t73_4') (rfl : T3.heap = T3.heap) O_M_3.1 (hb hby at_73) hml.symm rfl rfl (Nat.le_refl _) (by decide) (fun v10 T10 L10 X10 q10 => ?_)
      obtain ⟨b10_0, rfl, M10, Kc10, zb10_0, Rk10_0, Rk10_1, Rk10_2⟩ := q10
      have N10 := Fr.app N3 M10
      have ne_M_b10_0 : M ≠ b10_0 := Nat.ne_of_lt (Nat.lt_of_lt_of_le O_M_3.1.lt zb10_0)
      have ne_r_b10_0 : r ≠ b10_0 := Nat.ne_of_lt (Nat.lt_of_lt_of_le O_r_3.1.lt zb10_0)
      have ne_t_b10_0 : t ≠ b10_0 := Nat.ne_of_lt (Nat.lt_of_lt_of_le O_t_3.1.lt zb10_0)
      have ne_kx_b10_0 : kx ≠ b10_0 := Nat.ne_of_lt (Nat.lt_of_lt_of_le O_kx_3.1.lt zb10_0)
      have ne_km_b10_0 : km ≠ b10_0 := Nat.ne_of_lt (Nat.lt_of_lt_of_le O_km_3.1.lt zb10_0)
      have ne_vm_b10_0 : vm ≠ b10_0 := Nat.ne_of_lt (Nat.lt_of_lt_of_le O_vm_3.1.lt zb10_0)
      have ne_b2_b10_0 : b2 ≠ b10_0 := Nat.ne_of_lt (Nat.lt_of_lt_of_le O_b2_3.1.lt zb10_0)
      have g_b10_0 : n0 ≤ b10_0 := Nat.le_trans Z3 zb10_0
      have O_t_10 := R_ND_keep O_t_3 Kc10 (own_nin ne_M_t.symm (own_nin ne_r_t.symm nl))
      have O_kx_10 := R_IN_keep O_kx_3 Kc10 (own_nin ne_M_kx.symm (own_nin ne_r_kx.symm nl))
      have O_km_10 := R_IN_keep O_km_3 Kc10 (own_nin ne_M_km.symm (own_nin ne_r_km.symm nl))
      have O_vm_10 := R_IN_keep O_vm_3 Kc10 (own_nin ne_M_vm.symm (own_nin ne_r_vm.symm nl))
      have KO_10 := Keep.trans KO_3 Kc10 (own_memc (Or.inr (Nat.le_trans hN g_M)) (own_memc (Or.inr (Nat.le_trans hN g_r)) own_memn))
      have O_b2_10 := R_IN_keep O_b2_3 Kc10 (own_nin ne_M_b2.symm (own_nin ne_r_b2.symm nl))
      have Z10 : n0 ≤ T10.heap.size := Nat.le_trans Z3 Kc10.1
      refine g_pop X10 hx (hb hby at_76) rfl ?_
      exact seg_77_3 hw wc clc p1 p2 p3 p4 p5 n M (mc + (1 : Int32)) r t b10_0 kx vx x b2 b3 p4 km vm ma va ma va T10.heap n0 Z10 hN C1 C2 BX KO_10 Rk10_0 Rk10_1 O_t_10 Rk10_2 O_kx_10 O_b2_10 O_km_10 O_vm_10 ne_M_r ne_M_t ne_M_b10_0 ne_M_kx ne_M_b2 ne_M_km ne_M_vm ne_r_t ne_r_b10_0 ne_r_kx ne_r_b2 ne_r_km ne_r_vm ne_t_b10_0 ne_t_kx ne_t_b2 ne_t_km ne_t_vm ne_kx_b10_0.symm ne_b2_b10_0.symm ne_km_b10_0.symm ne_vm_b10_0.symm g_M g_r g_t g_b10_0 hn ho Tb (by have u0 : ¬ (n = (0 : Int32)) := hn; have u1 : ¬ (n < (3 : Int32)) := c60_1; have u2 : ¬ (p4 < x) := t73_4; have u3 : ¬ (p4 = x) := t73_4'; have u4 := hn; have u5 := ho; have u6 := Tb; (try simp only [own_T, own_R, Int32.lt_iff_toInt_lt, ← Int32.toInt_inj, Int32.reduceToInt] at u0 u1 u2 u3 u4 u5 u6) <;> (try simp only [own_T, own_R, Int32.lt_iff_toInt_lt, ← Int32.toInt_inj, Int32.reduceToInt]) <;> first | omega | (simp; done) | (simp; omega)) hx hby hml hown hnm hret hlk hZ (Stand.more X10 (by decide) (by decide)) (rfl : T10.heap = T10.heap) N10
theorem seg_57_2R (hw : HW a0 Z) (wc : Addr) (clc : Cell) (p1 p2 : Int32) (p3 p4 : Int32) (p5 n : Int32) (M : Addr) (mc : Int32) (r t : Addr) (ky vy : Addr) (y : Int32) (km vm : Addr) (ma va : Int32) (h0 : Heap) (n0 : Nat) (Z0 : n0 ≤ h0.size) (hN : Z.heap.size ≤ n0) (C1 : Sta Z Z.heap "java/lang/Integer$IntegerCache" "high" "I" (.int 127)) (C2 : Sta Z Z.heap "java/lang/Integer$IntegerCache" "cache" "[Ljava/lang/Integer;" (.ref wc)) (BX : Bxs Z wc clc "java/lang/Integer" "I" (256 : Int32) (fun j => .int (j - (128 : Int32)))) (KO : Keep Z.heap h0 []) (O_M : R_MP Z h0 M .null (.ref r) (.int 2) (.int mc)) (O_r : R_ND Z h0 r (.ref km) (.ref vm) .null (.ref t) .null (.int 0)) (O_t : R_ND Z h0 t (.ref ky) (.ref vy) .null .null (.ref r) (.int (-2147483648))) (O_ky : R_IN Z h0 ky (.int y)) (O_km : R_IN Z h0 km (.int ma)) (O_vm : R_IN Z h0 vm (.int va)) (ne_M_r : M ≠ r) (ne_M_t : M ≠ t) (ne_M_ky : M ≠ ky) (ne_M_km : M ≠ km) (ne_M_vm : M ≠ vm) (ne_r_t : r ≠ t) (ne_r_ky : r ≠ ky) (ne_r_km : r ≠ km) (ne_r_vm : r ≠ vm) (ne_t_ky : t ≠ ky) (ne_t_km : t ≠ km) (ne_t_vm : t ≠ vm) (g_M : n0 ≤ M) (g_r : n0 ≤ r) (g_t : n0 ≤ t) (hn : ¬ n = (0 : Int32)) (ho : ma < y) (Tb : own_T n (2 : Int32) p3 p2 (0 : Int32) (1 : Int32) ma va) {p : Program} {e : Env} {s : State} {m : MethodId} {below : List Frame} {meth : Method} {c : Code} {args : Array Value} {s₁ : State} {lo : List Loc} (hx : p.tables.exec = Jvm.exec) (hby : c.code = code) (hml : c.maxLocals = maxLocals) (hown : s.vm.findClass "com/example/rosewood/rosewood/RosewoodMapFirstPinLaw" = some m.cls) (hnm : meth.name = "law") (hret : meth.sig.returnType = ret) (hlk : meth.locks = false) (hZ : Z.Warmed39 s.vm) (X0 : Stand p l e room_1 s m args below meth c s₁ lo 7 23) (e0 : s₁.heap = h0) (N0 : Fr n0 lo) :
    Go p e below (s₁.setTop (mkF m 57 #[vi p1, vi p2, vi p3, vi p4, vi p5, vi n, vr M, vu, vu, vu] [])) (FinE s room_1.cells room_1.slots (fun v h L => v = some (.int 1) ∧ Fr n0 L)) := by
  refine g_iload X0 hx (hb hby at_57) rfl ?_
  refine g_iconst X0 hx (3 : Int32) (hb hby at_59) (by decide) ?_
  by_cases c60_1 : n < (3 : Int32)
  · refine g_icmpYes X0 hx 77 (hb hby at_60) (tlt c60_1).1 (by decide) (by decide) ?_
    exact seg_77_2R hw wc clc p1 p2 p3 p4 p5 n M mc r t ky vy y km vm ma va ma va h0 n0 Z0 hN C1 C2 BX KO O_M O_r O_t O_ky O_km O_vm ne_M_r ne_M_t ne_M_ky ne_M_km ne_M_vm ne_r_t ne_r_ky ne_r_km ne_r_vm ne_t_ky ne_t_km ne_t_vm g_M g_r g_t hn ho Tb (by have u0 : ¬ (n = (0 : Int32)) := hn; have u1 : n < (3 : Int32) := c60_1; have u2 := hn; have u3 := ho; have u4 := Tb; (try simp only [own_T, own_R, Int32.lt_iff_toInt_lt, ← Int32.toInt_inj, Int32.reduceToInt] at u0 u1 u2 u3 u4) <;> (try simp only [own_T, own_R, Int32.lt_iff_toInt_lt, ← Int32.toInt_inj, Int32.reduceToInt]) <;> first | omega | (simp; done) | (simp; omega)) hx hby hml hown hnm hret hlk hZ (Stand.more X0 (by decide) (by decide)) e0 N0
  · refine g_icmpNo X0 hx (hb hby at_60) (flt c60_1).1 ?_
    refine g_aload X0 hx (hb hby at_63) rfl rfl ?_
    refine g_iloadN X0 hx (hb hby at_65) rfl ?_
    refine g_S X0 hx hZ hown (lk5 hw) (rm_valueOf hw wc clc p4 h0 n0 Z0 hN C1 C2 BX KO) e0 (hb hby at_66) hml.symm rfl (rest := [(.ref M)]) rfl (W := 1) (Nat.le_of_eq rfl) (by decide) (fun v2 T2 L2 X2 q2 => ?_)
    obtain ⟨b2, rfl, M2, Kc2, O2⟩ := q2
    have N2 := Fr.app N0 M2
    have O_M_2 := R_MP_keep O_M Kc2 nl
    have O_r_2 := R_ND_keep O_r Kc2 nl
    have O_t_2 := R_ND_keep O_t Kc2 nl
    have O_ky_2 := R_IN_keep O_ky Kc2 nl
    have O_km_2 := R_IN_keep O_km Kc2 nl
    have O_vm_2 := R_IN_keep O_vm Kc2 nl
    have KO_2 := Keep.trans KO Kc2 own_memn
    have ne_M_b2 : M ≠ b2 := own_exane O_M_2.1 O2.1 (by decide)
    have ne_r_b2 : r ≠ b2 := own_exane O_r_2.1 O2.1 (by decide)
    have ne_t_b2 : t ≠ b2 := own_exane O_t_2.1 O2.1 (by decide)
    have Z2 : n0 ≤ T2.heap.size := Nat.le_trans Z0 Kc2.1
    refine g_iconst X2 hx (2 : Int32) (hb hby at_69) (by decide) ?_
    refine g_S X2 hx hZ hown (lk5 hw) (rm_valueOf hw wc clc (2 : Int32) T2.heap n0 Z2 hN C1 C2 BX KO_2) (rfl : T2.heap = T2.heap) (hb hby at_70) hml.symm rfl (rest := [(.ref b2), (.ref M)]) rfl (W := 2) (Nat.le_of_eq rfl) (by decide) (fun v3 T3 L3 X3 q3 => ?_)
    obtain ⟨b3, rfl, M3, Kc3, O3⟩ := q3
    have N3 := Fr.app N2 M3
    have O_M_3 := R_MP_keep O_M_2 Kc3 nl
    have O_r_3 := R_ND_keep O_r_2 Kc3 nl
    have O_t_3 := R_ND_keep O_t_2 Kc3 nl
    have O_ky_3 := R_IN_keep O_ky_2 Kc3 nl
    have O_km_3 := R_IN_keep O_km_2 Kc3 nl
    have O_vm_3 := R_IN_keep O_vm_2 Kc3 nl
    have KO_3 := Keep.trans KO_2 Kc3 own_memn
    have O_b2_3 := R_IN_keep O2 Kc3 nl
    have ne_M_b3 : M ≠ b3 := own_exane O_M_3.1 O3.1 (by decide)
    have ne_r_b3 : r ≠ b3 := own_exane O_r_3.1 O3.1 (by decide)
    have ne_t_b3 : t ≠ b3 := own_exane O_t_3.1 O3.1 (by decide)
    have Z3 : n0 ≤ T3.heap.size := Nat.le_trans Z2 Kc3.1
    rcases own_tri p4 ma with t73_4 | ⟨t73_4, t73_4'⟩ | ⟨t73_4, t73_4'⟩
    · refine g_V X3 hx hZ hown (lk19 hw) (rm_put_86 hw M b2 b3 r mc p4 km vm t ma ky vy T3.heap n0 Z3 O_M_3 O_b2_3 O_r_3 O_km_3 O_t_3 ne_M_r g_M g_r t73_4) (rfl : T3.heap = T3.heap) O_M_3.1 (hb hby at_73) hml.symm rfl rfl (Nat.le_refl _) (by decide) (fun v5 T5 L5 X5 q5 => ?_)
      obtain ⟨b5_0, rfl, M5, Kc5, zb5_0, Rk5_0, Rk5_1, Rk5_2⟩ := q5
      have N5 := Fr.app N3 M5
      have ne_M_b5_0 : M ≠ b5_0 := Nat.ne_of_lt (Nat.lt_of_lt_of_le O_M_3.1.lt zb5_0)
      have ne_r_b5_0 : r ≠ b5_0 := Nat.ne_of_lt (Nat.lt_of_lt_of_le O_r_3.1.lt zb5_0)
      have ne_t_b5_0 : t ≠ b5_0 := Nat.ne_of_lt (Nat.lt_of_lt_of_le O_t_3.1.lt zb5_0)
      have ne_ky_b5_0 : ky ≠ b5_0 := Nat.ne_of_lt (Nat.lt_of_lt_of_le O_ky_3.1.lt zb5_0)
      have ne_km_b5_0 : km ≠ b5_0 := Nat.ne_of_lt (Nat.lt_of_lt_of_le O_km_3.1.lt zb5_0)
      have ne_b2_b5_0 : b2 ≠ b5_0 := Nat.ne_of_lt (Nat.lt_of_lt_of_le O_b2_3.1.lt zb5_0)
      have ne_b3_b5_0 : b3 ≠ b5_0 := Nat.ne_of_lt (Nat.lt_of_lt_of_le O3.1.lt zb5_0)
      have g_b5_0 : n0 ≤ b5_0 := Nat.le_trans Z3 zb5_0
      have O_t_5 := R_ND_keep O_t_3 Kc5 (own_nin ne_M_t.symm (own_nin ne_r_t.symm nl))
      have O_ky_5 := R_IN_keep O_ky_3 Kc5 (own_nin ne_M_ky.symm (own_nin ne_r_ky.symm nl))
      have O_km_5 := R_IN_keep O_km_3 Kc5 (own_nin ne_M_km.symm (own_nin ne_r_km.symm nl))
      have KO_5 := Keep.trans KO_3 Kc5 (own_memc (Or.inr (Nat.le_trans hN g_M)) (own_memc (Or.inr (Nat.le_trans hN g_r)) own_memn))
      have O_b2_5 := R_IN_keep O_b2_3 Kc5 (own_nin ne_M_b2.symm (own_nin ne_r_b2.symm nl))
      have O_b3_5 := R_IN_keep O3 Kc5 (own_nin ne_M_b3.symm (own_nin ne_r_b3.symm nl))
      have Z5 : n0 ≤ T5.heap.size := Nat.le_trans Z3 Kc5.1
      refine g_pop X5 hx (hb hby at_76) rfl ?_
      exact seg_77_3 hw wc clc p1 p2 p3 p4 p5 n M (mc + (1 : Int32)) r b5_0 t km vm ma ky vy y b2 b3 p4 (2 : Int32) ma va T5.heap n0 Z5 hN C1 C2 BX KO_5 Rk5_0 Rk5_1 Rk5_2 O_t_5 O_km_5 O_ky_5 O_b2_5 O_b3_5 ne_M_r ne_M_b5_0 ne_M_t ne_M_km ne_M_ky ne_M_b2 ne_M_b3 ne_r_b5_0 ne_r_t ne_r_km ne_r_ky ne_r_b2 ne_r_b3 ne_t_b5_0.symm ne_km_b5_0.symm ne_ky_b5_0.symm ne_b2_b5_0.symm ne_b3_b5_0.symm ne_t_km ne_t_ky ne_t_b2 ne_t_b3 g_M g_r g_b5_0 g_t hn t73_4 Tb (by have u0 : ¬ (n = (0 : Int32)) := hn; have u1 : ¬ (n < (3 : Int32)) := c60_1; have u2 : p4 < ma := t73_4; have u3 := hn; have u4 := ho; have u5 := Tb; (try simp only [own_T, own_R, Int32.lt_iff_toInt_lt, ← Int32.toInt_inj, Int32.reduceToInt] at u0 u1 u2 u3 u4 u5) <;> (try simp only [own_T, own_R, Int32.lt_iff_toInt_lt, ← Int32.toInt_inj, Int32.reduceToInt]) <;> first | omega | (simp; done) | (simp; omega)) hx hby hml hown hnm hret hlk hZ (Stand.more X5 (by decide) (by decide)) (rfl : T5.heap = T5.heap) N5
    · refine g_V X3 hx hZ hown (lk19 hw) (rm_put_90 hw M b2 b3 r mc p4 km vm t ma ky vy T3.heap n0 Z3 O_M_3 O_b2_3 O_r_3 O_km_3 O_t_3 g_r t73_4 t73_4') (rfl : T3.heap = T3.heap) O_M_3.1 (hb hby at_73) hml.symm rfl rfl (Nat.le_refl _) (by decide) (fun v6 T6 L6 X6 q6 => ?_)
      obtain ⟨rfl, M6, Kc6, Rk6_0⟩ := q6
      have N6 := Fr.app N3 M6
      have O_M_6 := R_MP_keep O_M_3 Kc6 (own_nin ne_M_r nl)
      have O_t_6 := R_ND_keep O_t_3 Kc6 (own_nin ne_r_t.symm nl)
      have O_ky_6 := R_IN_keep O_ky_3 Kc6 (own_nin ne_r_ky.symm nl)
      have O_km_6 := R_IN_keep O_km_3 Kc6 (own_nin ne_r_km.symm nl)
      have KO_6 := Keep.trans KO_3 Kc6 (own_memc (Or.inr (Nat.le_trans hN g_r)) own_memn)
      have O_b3_6 := R_IN_keep O3 Kc6 (own_nin ne_r_b3.symm nl)
      have Z6 : n0 ≤ T6.heap.size := Nat.le_trans Z3 Kc6.1
      refine g_pop X6 hx (hb hby at_76) rfl ?_
      exact seg_77_2R hw wc clc p1 p2 p3 p4 p5 n M mc r t ky vy y km b3 ma (2 : Int32) ma va T6.heap n0 Z6 hN C1 C2 BX KO_6 O_M_6 Rk6_0 O_t_6 O_ky_6 O_km_6 O_b3_6 ne_M_r ne_M_t ne_M_ky ne_M_km ne_M_b3 ne_r_t ne_r_ky ne_r_km ne_r_b3 ne_t_ky ne_t_km ne_t_b3 g_M g_r g_t hn ho Tb (by have u0 : ¬ (n = (0 : Int32)) := hn; have u1 : ¬ (n < (3 : Int32)) := c60_1; have u2 : ¬ (p4 < ma) := t73_4; have u3 : p4 = ma := t73_4'; have u4 := hn; have u5 := ho; have u6 := Tb; (try simp only [own_T, own_R, Int32.lt_iff_toInt_lt, ← Int32.toInt_inj, Int32.reduceToInt] at u0 u1 u2 u3 u4 u5 u6) <;> (try simp only [own_T, own_R, Int32.lt_iff_toInt_lt, ← Int32.toInt_inj, Int32.reduceToInt]) <;> first | omega | (simp; done) | (simp; omega)) hx hby hml hown hnm hret hlk hZ (Stand.more X6 (by decide) (by decide)) (rfl : T6.heap = T6.heap) N6
    · rcases own_tri p4 y with t73_7 | ⟨t73_7, t73_7'⟩ | ⟨t73_7, t73_7'⟩
      · refine g_V X3 hx hZ hown (lk19 hw) (rm_put_94 hw M b2 b3 r mc p4 km vm t ma ky vy y T3.heap n0 Z3 O_M_3 O_b2_3 O_r_3 O_km_3 O_t_3 O_ky_3 ne_M_r ne_M_t ne_r_t g_M g_r g_t t73_4 t73_4' t73_7) (rfl : T3.heap = T3.heap) O_M_3.1 (hb hby at_73) hml.symm rfl rfl (Nat.le_refl _) (by decide) (fun v8 T8 L8 X8 q8 => ?_)
        obtain ⟨b8_0, rfl, M8, Kc8, zb8_0, Rk8_0, Rk8_1, Rk8_2, Rk8_3⟩ := q8
        have N8 := Fr.app N3 M8
        have ne_M_b8_0 : M ≠ b8_0 := Nat.ne_of_lt (Nat.lt_of_lt_of_le O_M_3.1.lt zb8_0)
        have ne_r_b8_0 : r ≠ b8_0 := Nat.ne_of_lt (Nat.lt_of_lt_of_le O_r_3.1.lt zb8_0)
        have ne_t_b8_0 : t ≠ b8_0 := Nat.ne_of_lt (Nat.lt_of_lt_of_le O_t_3.1.lt zb8_0)
        have ne_ky_b8_0 : ky ≠ b8_0 := Nat.ne_of_lt (Nat.lt_of_lt_of_le O_ky_3.1.lt zb8_0)
        have ne_km_b8_0 : km ≠ b8_0 := Nat.ne_of_lt (Nat.lt_of_lt_of_le O_km_3.1.lt zb8_0)
        have ne_vm_b8_0 : vm ≠ b8_0 := Nat.ne_of_lt (Nat.lt_of_lt_of_le O_vm_3.1.lt zb8_0)
        have ne_b2_b8_0 : b2 ≠ b8_0 := Nat.ne_of_lt (Nat.lt_of_lt_of_le O_b2_3.1.lt zb8_0)
        have g_b8_0 : n0 ≤ b8_0 := Nat.le_trans Z3 zb8_0
        have O_ky_8 := R_IN_keep O_ky_3 Kc8 (own_nin ne_M_ky.symm (own_nin ne_r_ky.symm (own_nin ne_t_ky.symm nl)))
        have O_km_8 := R_IN_keep O_km_3 Kc8 (own_nin ne_M_km.symm (own_nin ne_r_km.symm (own_nin ne_t_km.symm nl)))
        have O_vm_8 := R_IN_keep O_vm_3 Kc8 (own_nin ne_M_vm.symm (own_nin ne_r_vm.symm (own_nin ne_t_vm.symm nl)))
        have KO_8 := Keep.trans KO_3 Kc8 (own_memc (Or.inr (Nat.le_trans hN g_M)) (own_memc (Or.inr (Nat.le_trans hN g_r)) (own_memc (Or.inr (Nat.le_trans hN g_t)) own_memn)))
        have O_b2_8 := R_IN_keep O_b2_3 Kc8 (own_nin ne_M_b2.symm (own_nin ne_r_b2.symm (own_nin ne_t_b2.symm nl)))
        have Z8 : n0 ≤ T8.heap.size := Nat.le_trans Z3 Kc8.1
        refine g_pop X8 hx (hb hby at_76) rfl ?_
        exact seg_77_3 hw wc clc p1 p2 p3 p4 p5 n M (mc + (1 : Int32)) b8_0 r t b2 b3 p4 ky vy y km vm ma va ma va T8.heap n0 Z8 hN C1 C2 BX KO_8 Rk8_0 Rk8_3 Rk8_1 Rk8_2 O_b2_8 O_ky_8 O_km_8 O_vm_8 ne_M_b8_0 ne_M_r ne_M_t ne_M_b2 ne_M_ky ne_M_km ne_M_vm ne_r_b8_0.symm ne_t_b8_0.symm ne_b2_b8_0.symm ne_ky_b8_0.symm ne_km_b8_0.symm ne_vm_b8_0.symm ne_r_t ne_r_b2 ne_r_ky ne_r_km ne_r_vm ne_t_b2 ne_t_ky ne_t_km ne_t_vm g_M g_b8_0 g_r g_t hn (by have u0 : ¬ (n = (0 : Int32)) := hn; have u1 : ¬ (n < (3 : Int32)) := c60_1; have u2 : ¬ (p4 < ma) := t73_4; have u3 : ¬ (p4 = ma) := t73_4'; have u4 : p4 < y := t73_7; have u5 := hn; have u6 := ho; have u7 := Tb; (try simp only [own_T, own_R, Int32.lt_iff_toInt_lt, ← Int32.toInt_inj, Int32.reduceToInt] at u0 u1 u2 u3 u4 u5 u6 u7) <;> (try simp only [own_T, own_R, Int32.lt_iff_toInt_lt, ← Int32.toInt_inj, Int32.reduceToInt]) <;> first | omega | (simp; done) | (simp; omega)) Tb (by have u0 : ¬ (n = (0 : Int32)) := hn; have u1 : ¬ (n < (3 : Int32)) := c60_1; have u2 : ¬ (p4 < ma) := t73_4; have u3 : ¬ (p4 = ma) := t73_4'; have u4 : p4 < y := t73_7; have u5 := hn; have u6 := ho; have u7 := Tb; (try simp only [own_T, own_R, Int32.lt_iff_toInt_lt, ← Int32.toInt_inj, Int32.reduceToInt] at u0 u1 u2 u3 u4 u5 u6 u7) <;> (try simp only [own_T, own_R, Int32.lt_iff_toInt_lt, ← Int32.toInt_inj, Int32.reduceToInt]) <;> first | omega | (simp; done) | (simp; omega)) hx hby hml hown hnm hret hlk hZ (Stand.more X8 (by decide) (by decide)) (rfl : T8.heap = T8.heap) N8
      · refine g_V X3 hx hZ hown (lk19 hw) (rm_put_106 hw M b2 b3 r mc p4 km vm t ma ky vy y T3.heap n0 Z3 O_M_3 O_b2_3 O_r_3 O_km_3 O_t_3 O_ky_3 g_t t73_4 t73_4' t73_7 t73_7') (rfl : T3.heap = T3.heap) O_M_3.1 (hb hby at_73) hml.symm rfl rfl (Nat.le_refl _) (by decide) (fun v9 T9 L9 X9 q9 => ?_)
        obtain ⟨rfl, M9, Kc9, Rk9_0⟩ := q9
        have N9 := Fr.app N3 M9
        have O_M_9 := R_MP_keep O_M_3 Kc9 (own_nin ne_M_t nl)
        have O_r_9 := R_ND_keep O_r_3 Kc9 (own_nin ne_r_t nl)
        have O_ky_9 := R_IN_keep O_ky_3 Kc9 (own_nin ne_t_ky.symm nl)
        have O_km_9 := R_IN_keep O_km_3 Kc9 (own_nin ne_t_km.symm nl)
        have O_vm_9 := R_IN_keep O_vm_3 Kc9 (own_nin ne_t_vm.symm nl)
        have KO_9 := Keep.trans KO_3 Kc9 (own_memc (Or.inr (Nat.le_trans hN g_t)) own_memn)
        have Z9 : n0 ≤ T9.heap.size := Nat.le_trans Z3 Kc9.1
        refine g_pop X9 hx (hb hby at_76) rfl ?_
        exact seg_77_2R hw wc clc p1 p2 p3 p4 p5 n M mc r t ky b3 y km vm ma va ma va T9.heap n0 Z9 hN C1 C2 BX KO_9 O_M_9 O_r_9 Rk9_0 O_ky_9 O_km_9 O_vm_9 ne_M_r ne_M_t ne_M_ky ne_M_km ne_M_vm ne_r_t ne_r_ky ne_r_km ne_r_vm ne_t_ky ne_t_km ne_t_vm g_M g_r g_t hn ho Tb (by have u0 : ¬ (n = (0 : Int32)) := hn; have u1 : ¬ (n < (3 : Int32)) := c60_1; have u2 : ¬ (p4 < ma) := t73_4; have u3 : ¬ (p4 = ma) := t73_4'; have u4 : ¬ (p4 < y) := t73_7; have u5 : p4 = y := t73_7'; have u6 := hn; have u7 := ho; have u8 := Tb; (try simp only [own_T, own_R, Int32.lt_iff_toInt_lt, ← Int32.toInt_inj, Int32.reduceToInt] at u0 u1 u2 u3 u4 u5 u6 u7 u8) <;> (try simp only [own_T, own_R, Int32.lt_iff_toInt_lt, ← Int32.toInt_inj, Int32.reduceToInt]) <;> first | omega | (simp; done) | (simp; omega)) hx hby hml hown hnm hret hlk hZ (Stand.more X9 (by decide) (by decide)) (rfl : T9.heap = T9.heap) N9
      · refine g_V X3 hx hZ hown (lk19 hw) (rm_put_110 hw M b2 b3 r mc p4 km vm t ma ky vy y T3.heap n0 Z3 O_M_3 O_b2_3 O_r_3 O_km_3 O_t_3 O_ky_3 ne_M_r ne_M_t ne_r_t g_M g_r g_t t73_4 t73_4' t73_7 t73_7') (rfl : T3.heap = T3.heap) O_M_3.1 (hb hby at_73) hml.symm rfl rfl (Nat.le_refl _) (by decide) (fun v10 T10 L10 X10 q10 => ?_)
        obtain ⟨b10_0, rfl, M10, Kc10, zb10_0, Rk10_0, Rk10_1, Rk10_2, Rk10_3⟩ := q10
        have N10 := Fr.app N3 M10
        have ne_M_b10_0 : M ≠ b10_0 := Nat.ne_of_lt (Nat.lt_of_lt_of_le O_M_3.1.lt zb10_0)
        have ne_r_b10_0 : r ≠ b10_0 := Nat.ne_of_lt (Nat.lt_of_lt_of_le O_r_3.1.lt zb10_0)
        have ne_t_b10_0 : t ≠ b10_0 := Nat.ne_of_lt (Nat.lt_of_lt_of_le O_t_3.1.lt zb10_0)
        have ne_ky_b10_0 : ky ≠ b10_0 := Nat.ne_of_lt (Nat.lt_of_lt_of_le O_ky_3.1.lt zb10_0)
        have ne_km_b10_0 : km ≠ b10_0 := Nat.ne_of_lt (Nat.lt_of_lt_of_le O_km_3.1.lt zb10_0)
        have ne_vm_b10_0 : vm ≠ b10_0 := Nat.ne_of_lt (Nat.lt_of_lt_of_le O_vm_3.1.lt zb10_0)
        have ne_b2_b10_0 : b2 ≠ b10_0 := Nat.ne_of_lt (Nat.lt_of_lt_of_le O_b2_3.1.lt zb10_0)
        have g_b10_0 : n0 ≤ b10_0 := Nat.le_trans Z3 zb10_0
        have O_ky_10 := R_IN_keep O_ky_3 Kc10 (own_nin ne_M_ky.symm (own_nin ne_r_ky.symm (own_nin ne_t_ky.symm nl)))
        have O_km_10 := R_IN_keep O_km_3 Kc10 (own_nin ne_M_km.symm (own_nin ne_r_km.symm (own_nin ne_t_km.symm nl)))
        have O_vm_10 := R_IN_keep O_vm_3 Kc10 (own_nin ne_M_vm.symm (own_nin ne_r_vm.symm (own_nin ne_t_vm.symm nl)))
        have KO_10 := Keep.trans KO_3 Kc10 (own_memc (Or.inr (Nat.le_trans hN g_M)) (own_memc (Or.inr (Nat.le_trans hN g_r)) (own_memc (Or.inr (Nat.le_trans hN g_t)) own_memn)))
        have O_b2_10 := R_IN_keep O_b2_3 Kc10 (own_nin ne_M_b2.symm (own_nin ne_r_b2.symm (own_nin ne_t_b2.symm nl)))
        have Z10 : n0 ≤ T10.heap.size := Nat.le_trans Z3 Kc10.1
        refine g_pop X10 hx (hb hby at_76) rfl ?_
        exact seg_77_3 hw wc clc p1 p2 p3 p4 p5 n M (mc + (1 : Int32)) t r b10_0 ky vy y b2 b3 p4 km vm ma va ma va T10.heap n0 Z10 hN C1 C2 BX KO_10 Rk10_0 Rk10_2 Rk10_1 Rk10_3 O_ky_10 O_b2_10 O_km_10 O_vm_10 ne_M_t ne_M_r ne_M_b10_0 ne_M_ky ne_M_b2 ne_M_km ne_M_vm ne_r_t.symm ne_t_b10_0 ne_t_ky ne_t_b2 ne_t_km ne_t_vm ne_r_b10_0 ne_r_ky ne_r_b2 ne_r_km ne_r_vm ne_ky_b10_0.symm ne_b2_b10_0.symm ne_km_b10_0.symm ne_vm_b10_0.symm g_M g_t g_r g_b10_0 hn ho Tb (by have u0 : ¬ (n = (0 : Int32)) := hn; have u1 : ¬ (n < (3 : Int32)) := c60_1; have u2 : ¬ (p4 < ma) := t73_4; have u3 : ¬ (p4 = ma) := t73_4'; have u4 : ¬ (p4 < y) := t73_7; have u5 : ¬ (p4 = y) := t73_7'; have u6 := hn; have u7 := ho; have u8 := Tb; (try simp only [own_T, own_R, Int32.lt_iff_toInt_lt, ← Int32.toInt_inj, Int32.reduceToInt] at u0 u1 u2 u3 u4 u5 u6 u7 u8) <;> (try simp only [own_T, own_R, Int32.lt_iff_toInt_lt, ← Int32.toInt_inj, Int32.reduceToInt]) <;> first | omega | (simp; done) | (simp; omega)) hx hby hml hown hnm hret hlk hZ (Stand.more X10 (by decide) (by decide)) (rfl : T10.heap = T10.heap) N10
theorem seg_37_1 (hw : HW a0 Z) (wc : Addr) (clc : Cell) (p1 p2 : Int32) (p3 p4 : Int32) (p5 n : Int32) (M : Addr) (mc : Int32) (r km vm : Addr) (h0 : Heap) (n0 : Nat) (Z0 : n0 ≤ h0.size) (hN : Z.heap.size ≤ n0) (C1 : Sta Z Z.heap "java/lang/Integer$IntegerCache" "high" "I" (.int 127)) (C2 : Sta Z Z.heap "java/lang/Integer$IntegerCache" "cache" "[Ljava/lang/Integer;" (.ref wc)) (BX : Bxs Z wc clc "java/lang/Integer" "I" (256 : Int32) (fun j => .int (j - (128 : Int32)))) (KO : Keep Z.heap h0 []) (O_M : R_MP Z h0 M .null (.ref r) (.int 1) (.int mc)) (O_r : R_ND Z h0 r (.ref km) (.ref vm) .null .null .null (.int 0)) (O_km : R_IN Z h0 km (.int p2)) (O_vm : R_IN Z h0 vm (.int 0)) (ne_M_r : M ≠ r) (ne_M_km : M ≠ km) (ne_M_vm : M ≠ vm) (ne_r_km : r ≠ km) (ne_r_vm : r ≠ vm) (g_M : n0 ≤ M) (g_r : n0 ≤ r) (hn : ¬ n = (0 : Int32)) {p : Program} {e : Env} {s : State} {m : MethodId} {below : List Frame} {meth : Method} {c : Code} {args : Array Value} {s₁ : State} {lo : List Loc} (hx : p.tables.exec = Jvm.exec) (hby : c.code = code) (hml : c.maxLocals = maxLocals) (hown : s.vm.findClass "com/example/rosewood/rosewood/RosewoodMapFirstPinLaw" = some m.cls) (hnm : meth.name = "law") (hret : meth.sig.returnType = ret) (hlk : meth.locks = false) (hZ : Z.Warmed39 s.vm) (X0 : Stand p l e room_1 s m args below meth c s₁ lo 4 15) (e0 : s₁.heap = h0) (N0 : Fr n0 lo) :
    Go p e below (s₁.setTop (mkF m 37 #[vi p1, vi p2, vi p3, vi p4, vi p5, vi n, vr M, vu, vu, vu] [])) (FinE s room_1.cells room_1.slots (fun v h L => v = some (.int 1) ∧ Fr n0 L)) := by
  refine g_iload X0 hx (hb hby at_37) rfl ?_
  refine g_iconst X0 hx (2 : Int32) (hb hby at_39) (by decide) ?_
  by_cases c40_1 : n < (2 : Int32)
  · refine g_icmpYes X0 hx 57 (hb hby at_40) (tlt c40_1).1 (by decide) (by decide) ?_
    exact seg_57_1 hw wc clc p1 p2 p3 p4 p5 n M mc r km vm p2 (0 : Int32) h0 n0 Z0 hN C1 C2 BX KO O_M O_r O_km O_vm ne_M_r ne_M_km ne_M_vm ne_r_km ne_r_vm g_M g_r hn (by have u0 : ¬ (n = (0 : Int32)) := hn; have u1 : n < (2 : Int32) := c40_1; have u2 := hn; (try simp only [own_T, own_R, Int32.lt_iff_toInt_lt, ← Int32.toInt_inj, Int32.reduceToInt] at u0 u1 u2) <;> (try simp only [own_T, own_R, Int32.lt_iff_toInt_lt, ← Int32.toInt_inj, Int32.reduceToInt]) <;> first | omega | (simp; done) | (simp; omega)) hx hby hml hown hnm hret hlk hZ (Stand.more X0 (by decide) (by decide)) e0 N0
  · refine g_icmpNo X0 hx (hb hby at_40) (flt c40_1).1 ?_
    refine g_aload X0 hx (hb hby at_43) rfl rfl ?_
    refine g_iloadN X0 hx (hb hby at_45) rfl ?_
    refine g_S X0 hx hZ hown (lk5 hw) (rm_valueOf hw wc clc p3 h0 n0 Z0 hN C1 C2 BX KO) e0 (hb hby at_46) hml.symm rfl (rest := [(.ref M)]) rfl (W := 1) (Nat.le_of_eq rfl) (by decide) (fun v2 T2 L2 X2 q2 => ?_)
    obtain ⟨b2, rfl, M2, Kc2, O2⟩ := q2
    have N2 := Fr.app N0 M2
    have O_M_2 := R_MP_keep O_M Kc2 nl
    have O_r_2 := R_ND_keep O_r Kc2 nl
    have O_km_2 := R_IN_keep O_km Kc2 nl
    have O_vm_2 := R_IN_keep O_vm Kc2 nl
    have KO_2 := Keep.trans KO Kc2 own_memn
    have ne_M_b2 : M ≠ b2 := own_exane O_M_2.1 O2.1 (by decide)
    have ne_r_b2 : r ≠ b2 := own_exane O_r_2.1 O2.1 (by decide)
    have Z2 : n0 ≤ T2.heap.size := Nat.le_trans Z0 Kc2.1
    refine g_iconst X2 hx (1 : Int32) (hb hby at_49) (by decide) ?_
    refine g_S X2 hx hZ hown (lk5 hw) (rm_valueOf hw wc clc (1 : Int32) T2.heap n0 Z2 hN C1 C2 BX KO_2) (rfl : T2.heap = T2.heap) (hb hby at_50) hml.symm rfl (rest := [(.ref b2), (.ref M)]) rfl (W := 2) (Nat.le_of_eq rfl) (by decide) (fun v3 T3 L3 X3 q3 => ?_)
    obtain ⟨b3, rfl, M3, Kc3, O3⟩ := q3
    have N3 := Fr.app N2 M3
    have O_M_3 := R_MP_keep O_M_2 Kc3 nl
    have O_r_3 := R_ND_keep O_r_2 Kc3 nl
    have O_km_3 := R_IN_keep O_km_2 Kc3 nl
    have O_vm_3 := R_IN_keep O_vm_2 Kc3 nl
    have KO_3 := Keep.trans KO_2 Kc3 own_memn
    have O_b2_3 := R_IN_keep O2 Kc3 nl
    have ne_M_b3 : M ≠ b3 := own_exane O_M_3.1 O3.1 (by decide)
    have ne_r_b3 : r ≠ b3 := own_exane O_r_3.1 O3.1 (by decide)
    have Z3 : n0 ≤ T3.heap.size := Nat.le_trans Z2 Kc3.1
    rcases own_tri p3 p2 with t53_4 | ⟨t53_4, t53_4'⟩ | ⟨t53_4, t53_4'⟩
    · refine g_V X3 hx hZ hown (lk19 hw) (rm_put_10 hw M b2 b3 r mc p3 km vm p2 T3.heap n0 Z3 O_M_3 O_b2_3 O_r_3 O_km_3 ne_M_r g_M g_r t53_4) (rfl : T3.heap = T3.heap) O_M_3.1 (hb hby at_53) hml.symm rfl rfl (Nat.le_refl _) (by decide) (fun v5 T5 L5 X5 q5 => ?_)
      obtain ⟨b5_0, rfl, M5, Kc5, zb5_0, Rk5_0, Rk5_1, Rk5_2⟩ := q5
      have N5 := Fr.app N3 M5
      have ne_M_b5_0 : M ≠ b5_0 := Nat.ne_of_lt (Nat.lt_of_lt_of_le O_M_3.1.lt zb5_0)
      have ne_r_b5_0 : r ≠ b5_0 := Nat.ne_of_lt (Nat.lt_of_lt_of_le O_r_3.1.lt zb5_0)
      have ne_km_b5_0 : km ≠ b5_0 := Nat.ne_of_lt (Nat.lt_of_lt_of_le O_km_3.1.lt zb5_0)
      have ne_b2_b5_0 : b2 ≠ b5_0 := Nat.ne_of_lt (Nat.lt_of_lt_of_le O_b2_3.1.lt zb5_0)
      have ne_b3_b5_0 : b3 ≠ b5_0 := Nat.ne_of_lt (Nat.lt_of_lt_of_le O3.1.lt zb5_0)
      have g_b5_0 : n0 ≤ b5_0 := Nat.le_trans Z3 zb5_0
      have O_km_5 := R_IN_keep O_km_3 Kc5 (own_nin ne_M_km.symm (own_nin ne_r_km.symm nl))
      have KO_5 := Keep.trans KO_3 Kc5 (own_memc (Or.inr (Nat.le_trans hN g_M)) (own_memc (Or.inr (Nat.le_trans hN g_r)) own_memn))
      have O_b2_5 := R_IN_keep O_b2_3 Kc5 (own_nin ne_M_b2.symm (own_nin ne_r_b2.symm nl))
      have O_b3_5 := R_IN_keep O3 Kc5 (own_nin ne_M_b3.symm (own_nin ne_r_b3.symm nl))
      have Z5 : n0 ≤ T5.heap.size := Nat.le_trans Z3 Kc5.1
      refine g_pop X5 hx (hb hby at_56) rfl ?_
      exact seg_57_2L hw wc clc p1 p2 p3 p4 p5 n M (mc + (1 : Int32)) r b5_0 km vm p2 b2 b3 p3 (1 : Int32) T5.heap n0 Z5 hN C1 C2 BX KO_5 Rk5_0 Rk5_1 Rk5_2 O_km_5 O_b2_5 O_b3_5 ne_M_r ne_M_b5_0 ne_M_km ne_M_b2 ne_M_b3 ne_r_b5_0 ne_r_km ne_r_b2 ne_r_b3 ne_km_b5_0.symm ne_b2_b5_0.symm ne_b3_b5_0.symm g_M g_r g_b5_0 hn t53_4 (by have u0 : ¬ (n = (0 : Int32)) := hn; have u1 : ¬ (n < (2 : Int32)) := c40_1; have u2 : p3 < p2 := t53_4; have u3 := hn; (try simp only [own_T, own_R, Int32.lt_iff_toInt_lt, ← Int32.toInt_inj, Int32.reduceToInt] at u0 u1 u2 u3) <;> (try simp only [own_T, own_R, Int32.lt_iff_toInt_lt, ← Int32.toInt_inj, Int32.reduceToInt]) <;> first | omega | (simp; done) | (simp; omega)) hx hby hml hown hnm hret hlk hZ (Stand.more X5 (by decide) (by decide)) (rfl : T5.heap = T5.heap) N5
    · refine g_V X3 hx hZ hown (lk19 hw) (rm_put_24 hw M b2 b3 r mc p3 km vm p2 T3.heap n0 Z3 O_M_3 O_b2_3 O_r_3 O_km_3 g_r t53_4 t53_4') (rfl : T3.heap = T3.heap) O_M_3.1 (hb hby at_53) hml.symm rfl rfl (Nat.le_refl _) (by decide) (fun v6 T6 L6 X6 q6 => ?_)
      obtain ⟨rfl, M6, Kc6, Rk6_0⟩ := q6
      have N6 := Fr.app N3 M6
      have O_M_6 := R_MP_keep O_M_3 Kc6 (own_nin ne_M_r nl)
      have O_km_6 := R_IN_keep O_km_3 Kc6 (own_nin ne_r_km.symm nl)
      have KO_6 := Keep.trans KO_3 Kc6 (own_memc (Or.inr (Nat.le_trans hN g_r)) own_memn)
      have O_b3_6 := R_IN_keep O3 Kc6 (own_nin ne_r_b3.symm nl)
      have Z6 : n0 ≤ T6.heap.size := Nat.le_trans Z3 Kc6.1
      refine g_pop X6 hx (hb hby at_56) rfl ?_
      exact seg_57_1 hw wc clc p1 p2 p3 p4 p5 n M mc r km b3 p2 (1 : Int32) T6.heap n0 Z6 hN C1 C2 BX KO_6 O_M_6 Rk6_0 O_km_6 O_b3_6 ne_M_r ne_M_km ne_M_b3 ne_r_km ne_r_b3 g_M g_r hn (by have u0 : ¬ (n = (0 : Int32)) := hn; have u1 : ¬ (n < (2 : Int32)) := c40_1; have u2 : ¬ (p3 < p2) := t53_4; have u3 : p3 = p2 := t53_4'; have u4 := hn; (try simp only [own_T, own_R, Int32.lt_iff_toInt_lt, ← Int32.toInt_inj, Int32.reduceToInt] at u0 u1 u2 u3 u4) <;> (try simp only [own_T, own_R, Int32.lt_iff_toInt_lt, ← Int32.toInt_inj, Int32.reduceToInt]) <;> first | omega | (simp; done) | (simp; omega)) hx hby hml hown hnm hret hlk hZ (Stand.more X6 (by decide) (by decide)) (rfl : T6.heap = T6.heap) N6
    · refine g_V X3 hx hZ hown (lk19 hw) (rm_put_33 hw M b2 b3 r mc p3 km vm p2 T3.heap n0 Z3 O_M_3 O_b2_3 O_r_3 O_km_3 ne_M_r g_M g_r t53_4 t53_4') (rfl : T3.heap = T3.heap) O_M_3.1 (hb hby at_53) hml.symm rfl rfl (Nat.le_refl _) (by decide) (fun v7 T7 L7 X7 q7 => ?_)
      obtain ⟨b7_0, rfl, M7, Kc7, zb7_0, Rk7_0, Rk7_1, Rk7_2⟩ := q7
      have N7 := Fr.app N3 M7
      have ne_M_b7_0 : M ≠ b7_0 := Nat.ne_of_lt (Nat.lt_of_lt_of_le O_M_3.1.lt zb7_0)
      have ne_r_b7_0 : r ≠ b7_0 := Nat.ne_of_lt (Nat.lt_of_lt_of_le O_r_3.1.lt zb7_0)
      have ne_km_b7_0 : km ≠ b7_0 := Nat.ne_of_lt (Nat.lt_of_lt_of_le O_km_3.1.lt zb7_0)
      have ne_vm_b7_0 : vm ≠ b7_0 := Nat.ne_of_lt (Nat.lt_of_lt_of_le O_vm_3.1.lt zb7_0)
      have ne_b2_b7_0 : b2 ≠ b7_0 := Nat.ne_of_lt (Nat.lt_of_lt_of_le O_b2_3.1.lt zb7_0)
      have g_b7_0 : n0 ≤ b7_0 := Nat.le_trans Z3 zb7_0
      have O_km_7 := R_IN_keep O_km_3 Kc7 (own_nin ne_M_km.symm (own_nin ne_r_km.symm nl))
      have O_vm_7 := R_IN_keep O_vm_3 Kc7 (own_nin ne_M_vm.symm (own_nin ne_r_vm.symm nl))
      have KO_7 := Keep.trans KO_3 Kc7 (own_memc (Or.inr (Nat.le_trans hN g_M)) (own_memc (Or.inr (Nat.le_trans hN g_r)) own_memn))
      have O_b2_7 := R_IN_keep O_b2_3 Kc7 (own_nin ne_M_b2.symm (own_nin ne_r_b2.symm nl))
      have Z7 : n0 ≤ T7.heap.size := Nat.le_trans Z3 Kc7.1
      refine g_pop X7 hx (hb hby at_56) rfl ?_
      exact seg_57_2R hw wc clc p1 p2 p3 p4 p5 n M (mc + (1 : Int32)) r b7_0 b2 b3 p3 km vm p2 (0 : Int32) T7.heap n0 Z7 hN C1 C2 BX KO_7 Rk7_0 Rk7_1 Rk7_2 O_b2_7 O_km_7 O_vm_7 ne_M_r ne_M_b7_0 ne_M_b2 ne_M_km ne_M_vm ne_r_b7_0 ne_r_b2 ne_r_km ne_r_vm ne_b2_b7_0.symm ne_km_b7_0.symm ne_vm_b7_0.symm g_M g_r g_b7_0 hn (by have u2 : ¬ (p3 < p2) := t53_4; have u3 : ¬ (p3 = p2) := t53_4'; (try simp only [own_T, own_R, Int32.lt_iff_toInt_lt, ← Int32.toInt_inj, Int32.reduceToInt] at u2 u3) <;> (try simp only [own_T, own_R, Int32.lt_iff_toInt_lt, ← Int32.toInt_inj, Int32.reduceToInt]) <;> first | omega | (simp; done) | (simp; omega)) (by have u0 : ¬ (n = (0 : Int32)) := hn; have u1 : ¬ (n < (2 : Int32)) := c40_1; have u2 : ¬ (p3 < p2) := t53_4; have u3 : ¬ (p3 = p2) := t53_4'; have u4 := hn; (try simp only [own_T, own_R, Int32.lt_iff_toInt_lt, ← Int32.toInt_inj, Int32.reduceToInt] at u0 u1 u2 u3 u4) <;> (try simp only [own_T, own_R, Int32.lt_iff_toInt_lt, ← Int32.toInt_inj, Int32.reduceToInt]) <;> first | omega | (simp; done) | (simp; omega)) hx hby hml hown hnm hret hlk hZ (Stand.more X7 (by decide) (by decide)) (rfl : T7.heap = T7.heap) N7
theorem d5_7 : decode B5 7 = .ok (.aconst_null, 1) := by decide +kernel
theorem d5_8 : decode B5 8 = .ok (.goto 10, 3) := by decide +kernel
theorem rm_first_149 (hw : HW a0 Z) (a1 : Addr) (i1 : Int32) (h0 : Heap) (n0 : Nat) (Z0 : n0 ≤ h0.size) (O_a1 : R_MP Z h0 a1 .null .null (.int 0) (.int i1)) :
    Ctr l Y5 B5 1 (some F1_) [] (rmk 0 0 0 0) Z #[(.ref a1)] h0 (fun v h L => v = some .null ∧ Fr n0 L ∧ h = h0) := by
  refine own_enter pn_2 (fun p e s m below meth c s₁ hx hby hml hown hnm hret hlk hZ X0 e0 => ?_)
  have N0 := Fr.nil n0
  have K0 := Keep.refl h0 []
  rw [ef_5_R m _]
  refine g_aloadN X0 hx (hb hby d5_0) rfl rfl ?_
  refine g_getF X0 hx hZ hown (Wd25 hw) e0 O_a1.2.2.1 (hb hby d5_1) (fun T1 X1 e1 => ?_)
  refine g_nonnullNo X1 hx (hb hby d5_4) ?_
  refine g_null X1 hx (hb hby d5_7) ?_
  refine g_goto X1 hx 18 (hb hby d5_8) (by decide) (by decide) ?_
  exact own_retA X1 hx hret hlk rfl rfl (hb hby d5_18) (by decide) (by decide) ⟨rfl, N0, e1⟩
theorem seg_37_E (hw : HW a0 Z) (p1 p2 : Int32) (p3 p4 : Int32) (p5 n : Int32) (M : Addr) (mc : Int32) (h0 : Heap) (n0 : Nat) (Z0 : n0 ≤ h0.size) (O_M : R_MP Z h0 M .null .null (.int 0) (.int mc)) (g_M : n0 ≤ M) (h1 : n < (1 : Int32)) (h0n : ¬ n < (0 : Int32)) {p : Program} {e : Env} {s : State} {m : MethodId} {below : List Frame} {meth : Method} {c : Code} {args : Array Value} {s₁ : State} {lo : List Loc} (hx : p.tables.exec = Jvm.exec) (hby : c.code = code) (hml : c.maxLocals = maxLocals) (hown : s.vm.findClass "com/example/rosewood/rosewood/RosewoodMapFirstPinLaw" = some m.cls) (hnm : meth.name = "law") (hret : meth.sig.returnType = ret) (hlk : meth.locks = false) (hZ : Z.Warmed39 s.vm) (X0 : Stand p l e room_1 s m args below meth c s₁ lo 4 15) (e0 : s₁.heap = h0) (N0 : Fr n0 lo) :
    Go p e below (s₁.setTop (mkF m 37 #[vi p1, vi p2, vi p3, vi p4, vi p5, vi n, vr M, vu, vu, vu] [])) (FinE s room_1.cells room_1.slots (fun v h L => v = some (.int 1) ∧ Fr n0 L)) := by
  refine g_iload X0 hx (hb hby at_37) rfl ?_
  refine g_iconst X0 hx (2 : Int32) (hb hby at_39) (by decide) ?_
  have c40_1 : n < (2 : Int32) := (by have u0 := h1; have u1 := h0n; (try simp only [own_T, own_R, Int32.lt_iff_toInt_lt, ← Int32.toInt_inj, Int32.reduceToInt] at u0 u1) <;> (try simp only [own_T, own_R, Int32.lt_iff_toInt_lt, ← Int32.toInt_inj, Int32.reduceToInt]) <;> first | omega | (simp; done) | (simp; omega))
  refine g_icmpYes X0 hx 57 (hb hby at_40) (tlt c40_1).1 (by decide) (by decide) ?_
  refine g_iload X0 hx (hb hby at_57) rfl ?_
  refine g_iconst X0 hx (3 : Int32) (hb hby at_59) (by decide) ?_
  have c60_2 : n < (3 : Int32) := (by have u0 := h1; have u1 := h0n; (try simp only [own_T, own_R, Int32.lt_iff_toInt_lt, ← Int32.toInt_inj, Int32.reduceToInt] at u0 u1) <;> (try simp only [own_T, own_R, Int32.lt_iff_toInt_lt, ← Int32.toInt_inj, Int32.reduceToInt]) <;> first | omega | (simp; done) | (simp; omega))
  refine g_icmpYes X0 hx 77 (hb hby at_60) (tlt c60_2).1 (by decide) (by decide) ?_
  refine g_iload X0 hx (hb hby at_77) rfl ?_
  refine g_iconst X0 hx (4 : Int32) (hb hby at_79) (by decide) ?_
  have c80_3 : n < (4 : Int32) := (by have u0 := h1; have u1 := h0n; (try simp only [own_T, own_R, Int32.lt_iff_toInt_lt, ← Int32.toInt_inj, Int32.reduceToInt] at u0 u1) <;> (try simp only [own_T, own_R, Int32.lt_iff_toInt_lt, ← Int32.toInt_inj, Int32.reduceToInt]) <;> first | omega | (simp; done) | (simp; omega))
  refine g_icmpYes X0 hx 98 (hb hby at_80) (tlt c80_3).1 (by decide) (by decide) ?_
  refine g_aload X0 hx (hb hby at_98) rfl rfl ?_
  refine g_V X0 hx hZ hown (lk4 hw) (rm_first_149 hw M mc h0 n0 Z0 O_M) e0 O_M.1 (hb hby at_100) hml.symm rfl rfl (Nat.le_refl _) (by decide) (fun v4 T4 L4 X4 q4 => ?_)
  obtain ⟨rfl, M4, e4⟩ := q4
  have N4 := Fr.app N0 M4
  refine g_astore X4 hx #[vi p1, vi p2, vi p3, vi p4, vi p5, vi n, vr M, vn, vu, vu] (hb hby at_103) rfl rfl ?_
  refine g_iload X4 hx (hb hby at_105) rfl ?_
  have c107_5 : n = (0 : Int32) := (by have u0 := h1; have u1 := h0n; (try simp only [own_T, own_R, Int32.lt_iff_toInt_lt, ← Int32.toInt_inj, Int32.reduceToInt] at u0 u1) <;> (try simp only [own_T, own_R, Int32.lt_iff_toInt_lt, ← Int32.toInt_inj, Int32.reduceToInt]) <;> first | omega | (simp; done) | (simp; omega))
  refine g_ifNo X4 hx (hb hby at_107) ((if0 _ _).trans (teq c107_5).2) ?_
  refine g_aload X4 hx (hb hby at_110) rfl rfl ?_
  refine g_nonnullNo X4 hx (hb hby at_112) ?_
  refine g_iconst X4 hx (1 : Int32) (hb hby at_115) (by decide) ?_
  refine g_goto X4 hx 120 (hb hby at_116) (by decide) (by decide) ?_
  exact own_retZ X4 hx hret hlk (hb hby at_120) (by decide) (by decide) (by decide) ⟨rfl, N4⟩
theorem rm_compare_155 (hw : HW a0 Z) (i1 : Int32) (h0 : Heap) (n0 : Nat) (Z0 : n0 ≤ h0.size)  :
    Ctr l Y7 B7 2 (some FieldType.int) [] (rmk 0 0 0 0) Z #[(.int i1), (.int i1)] h0 (fun v h L => v = some (.int 0) ∧ Fr n0 L ∧ h = h0) := by
  refine own_enter pn_1 (fun p e s m below meth c s₁ hx hby hml hown hnm hret hlk hZ X0 e0 => ?_)
  have N0 := Fr.nil n0
  have K0 := Keep.refl h0 []
  rw [ef_11_II m _ _]
  refine g_iloadN X0 hx (hb hby d11_0) rfl ?_
  refine g_iloadN X0 hx (hb hby d11_1) rfl ?_
  have c2_1 : ¬ (i1 < i1) := (own_irr _)
  refine g_icmpYes X0 hx 9 (hb hby d11_2) (flt c2_1).2.1 (by decide) (by decide) ?_
  refine g_iloadN X0 hx (hb hby d11_9) rfl ?_
  refine g_iloadN X0 hx (hb hby d11_10) rfl ?_
  refine g_icmpNo X0 hx (hb hby d11_11) (teq (rfl : i1 = i1)).2 ?_
  refine g_iconst X0 hx (0 : Int32) (hb hby d11_14) (by decide) ?_
  refine g_goto X0 hx 19 (hb hby d11_15) (by decide) (by decide) ?_
  exact own_retI X0 hx hret hlk (hb hby d11_19) (by decide) (by decide) ⟨rfl, N0, e0⟩
theorem rm_compareTo_154 (hw : HW a0 Z) (a1 : Addr) (i1 : Int32) (h0 : Heap) (n0 : Nat) (Z0 : n0 ≤ h0.size) (O_a1 : R_IN Z h0 a1 (.int i1)) :
    Ctr l Y8 B8 2 (some FieldType.int) [] (rmk 1 0 0 13) Z #[(.ref a1), (.ref a1)] h0 (fun v h L => v = some (.int 0) ∧ Fr n0 L ∧ h = h0) := by
  refine own_enter pn_1 (fun p e s m below meth c s₁ hx hby hml hown hnm hret hlk hZ X0 e0 => ?_)
  have N0 := Fr.nil n0
  have K0 := Keep.refl h0 []
  rw [ef_10_RR m _ _]
  refine g_aloadN X0 hx (hb hby d10_0) rfl rfl ?_
  refine g_getF X0 hx hZ hown (Wd65 hw) e0 O_a1.2 (hb hby d10_1) (fun T1 X1 e1 => ?_)
  refine g_aloadN X1 hx (hb hby d10_4) rfl rfl ?_
  refine g_getF X1 hx hZ hown (Wd65 hw) e1 O_a1.2 (hb hby d10_5) (fun T2 X2 e2 => ?_)
  refine g_S X2 hx hZ hown (lk7 hw) (rm_compare_155 hw i1 h0 n0 Z0 ) e2 (hb hby d10_8) hml.symm rfl rfl (Nat.le_refl _) (by decide) (fun v3 T3 L3 X3 q3 => ?_)
  obtain ⟨rfl, M3, e3⟩ := q3
  have N3 := Fr.app N0 M3
  exact own_retI X3 hx hret hlk (hb hby d10_11) (by decide) (by decide) ⟨rfl, N3, e3⟩
theorem rm_compareTo_153 (hw : HW a0 Z) (a1 : Addr) (i1 : Int32) (h0 : Heap) (n0 : Nat) (Z0 : n0 ≤ h0.size) (O_a1 : R_IN Z h0 a1 (.int i1)) :
    Ctr l Y9 B9 2 (some FieldType.int) [] (rmk 2 0 0 26) Z #[(.ref a1), (.ref a1)] h0 (fun v h L => v = some (.int 0) ∧ Fr n0 L ∧ h = h0) := by
  refine own_enter pn_1 (fun p e s m below meth c s₁ hx hby hml hown hnm hret hlk hZ X0 e0 => ?_)
  have N0 := Fr.nil n0
  have K0 := Keep.refl h0 []
  rw [ef_9_RR m _ _]
  refine g_aloadN X0 hx (hb hby d9_0) rfl rfl ?_
  refine g_aloadN X0 hx (hb hby d9_1) rfl rfl ?_
  refine g_cast X0 hx hZ hown (Wd58 hw) e0 (Ins.self O_a1.1) (hb hby d9_2) (fun T1 X1 e1 => ?_)
  refine g_V X1 hx hZ hown (lk8 hw) (rm_compareTo_154 hw a1 i1 h0 n0 Z0 O_a1) e1 O_a1.1 (hb hby d9_5) hml.symm rfl rfl (Nat.le_refl _) (by decide) (fun v2 T2 L2 X2 q2 => ?_)
  obtain ⟨rfl, M2, e2⟩ := q2
  have N2 := Fr.app N0 M2
  exact own_retI X2 hx hret hlk (hb hby d9_8) (by decide) (by decide) ⟨rfl, N2, e2⟩
theorem rm_compare_152 (hw : HW a0 Z) (a1 a2 : Addr) (i1 i2 : Int32) (h0 : Heap) (n0 : Nat) (Z0 : n0 ≤ h0.size) (O_a1 : R_MP Z h0 a1 .null .null (.int 0) (.int i1)) (O_a2 : R_IN Z h0 a2 (.int i2)) :
    Ctr l Y11 B10 3 (some FieldType.int) [] (rmk 3 0 0 39) Z #[(.ref a1), (.ref a2), (.ref a2)] h0 (fun v h L => v = some (.int 0) ∧ Fr n0 L ∧ h = h0) := by
  refine own_enter pn_2 (fun p e s m below meth c s₁ hx hby hml hown hnm hret hlk hZ X0 e0 => ?_)
  have N0 := Fr.nil n0
  have K0 := Keep.refl h0 []
  rw [ef_8_RRR m _ _ _]
  refine g_aloadN X0 hx (hb hby d8_0) rfl rfl ?_
  refine g_getF X0 hx hZ hown (Wd18 hw) e0 O_a1.2.1 (hb hby d8_1) (fun T1 X1 e1 => ?_)
  refine g_nonnullNo X1 hx (hb hby d8_4) ?_
  refine g_aloadN X1 hx (hb hby d8_7) rfl rfl ?_
  refine g_cast X1 hx hZ hown (Wd48 hw) e1 (Ins.of_exa O_a2.1 (Wd49 hw)) (hb hby d8_8) (fun T2 X2 e2 => ?_)
  refine g_aloadN X2 hx (hb hby d8_11) rfl rfl ?_
  refine g_F X2 hx hZ hown (lk9 hw) (mvT hZ (Wd52 hw)) (rm_compareTo_153 hw a2 i2 h0 n0 Z0 O_a2) e2 O_a2.1 (hb hby d8_12) hml.symm rfl rfl (Nat.le_refl _) (by decide) (fun v3 T3 L3 X3 q3 => ?_)
  obtain ⟨rfl, M3, e3⟩ := q3
  have N3 := Fr.app N0 M3
  refine g_goto X3 hx 31 (hb hby d8_17) (by decide) (by decide) ?_
  exact own_retI X3 hx hret hlk (hb hby d8_31) (by decide) (by decide) ⟨rfl, N3, e3⟩
theorem ef_13_RRRn (m : MethodId) (x0 x1 x2 : Addr) : entryFrame m #[(.ref x0), (.ref x1), (.ref x2), .null] 4 = mkF m 0 #[vr x0, vr x1, vr x2, vn] [] := by first | (simp [entryFrame, mkF, argsToLocals, Value.category]; done) | rfl
theorem rm_init_157 (hw : HW a0 Z) (a1 a2 a3 : Addr) (h0 : Heap) (n0 : Nat) (Z0 : n0 ≤ h0.size) (O_a1 : R_ND Z h0 a1 .null .null .null .null .null (.int 0)) (g_a1 : n0 ≤ a1) :
    Ctr l Y13 B12 4 none [] (rmk 1 0 0 12) Z #[(.ref a1), (.ref a2), (.ref a3), .null] h0 (fun v h L => v = none ∧ Fr n0 L ∧ Keep h0 h [a1] ∧ R_ND Z h a1 (.ref a2) (.ref a3) .null .null .null (.int (-2147483648))) := by
  refine own_enter pn_3 (fun p e s m below meth c s₁ hx hby hml hown hnm hret hlk hZ X0 e0 => ?_)
  have N0 := Fr.nil n0
  have K0 := Keep.refl h0 [a1]
  rw [ef_13_RRRn m _ _ _ ]
  refine g_aloadN X0 hx (hb hby d13_0) rfl rfl ?_
  refine g_init X0 hx hZ hown (Wd81 hw) (Wd16 hw) (Wd17 hw) e0 (by rw [hml]; rfl) (hb hby d13_1) (by decide) (W := 0) (Nat.le_of_eq rfl) (by decide) (fun T1 X1 e1 => ?_)
  refine g_aloadN X1 hx (hb hby d13_4) rfl rfl ?_
  refine g_ldc X1 hx hZ hown (Wd82 hw) (hb hby d13_5) ?_
  refine g_putF X1 hx hZ hown (Wd83 hw) e1 O_a1.2.2.2.2.2.2 O_a1.1 (Or.inl (Wd84 hw)) (Wd76 hw) fd_0 rfl rfl (hb hby d13_7) (fun T2 h2 X2 e2 W2 => ?_)
  have N2 := Fr.snoc X2 N0 g_a1
  have O_a1_2 := R_ND_set_redAndLeftCount hw W2 O_a1
  have K2 := Keep.wr K0 W2 (mw 0 rfl)
  refine g_aloadN X2 hx (hb hby d13_10) rfl rfl ?_
  refine g_aloadN X2 hx (hb hby d13_11) rfl rfl ?_
  refine g_putF X2 hx hZ hown (Wd85 hw) e2 O_a1_2.2.1 O_a1_2.1 (Or.inl (Wd86 hw)) (Wd76 hw) fd_1 rfl rfl (hb hby d13_12) (fun T3 h3 X3 e3 W3 => ?_)
  have N3 := Fr.snoc X3 N2 g_a1
  have O_a1_3 := R_ND_set_key hw W3 O_a1_2
  have K3 := Keep.wr K2 W3 (mw 0 rfl)
  refine g_aloadN X3 hx (hb hby d13_15) rfl rfl ?_
  refine g_aloadN X3 hx (hb hby d13_16) rfl rfl ?_
  refine g_putF X3 hx hZ hown (Wd87 hw) e3 O_a1_3.2.2.1 O_a1_3.1 (Or.inl (Wd88 hw)) (Wd76 hw) fd_1 rfl rfl (hb hby d13_17) (fun T4 h4 X4 e4 W4 => ?_)
  have N4 := Fr.snoc X4 N3 g_a1
  have O_a1_4 := R_ND_set_value hw W4 O_a1_3
  have K4 := Keep.wr K3 W4 (mw 0 rfl)
  refine g_aloadN X4 hx (hb hby d13_20) rfl rfl ?_
  refine g_aloadN X4 hx (hb hby d13_21) rfl rfl ?_
  refine g_putF X4 hx hZ hown (Wd89 hw) e4 O_a1_4.2.2.2.2.2.1 O_a1_4.1 (Or.inl (Wd90 hw)) (Wd76 hw) fd_2 rfl rfl (hb hby d13_22) (fun T5 h5 X5 e5 W5 => ?_)
  have N5 := Fr.snoc X5 N4 g_a1
  have O_a1_5 := R_ND_set_parent hw W5 O_a1_4
  have K5 := Keep.wr K4 W5 (mw 0 rfl)
  exact own_retV X5 hx hret hlk (hb hby d13_25) (by decide) (by decide) (by rw [e5]; exact ⟨rfl, N5, K5, O_a1_5⟩)
theorem ef_12_RRRn (m : MethodId) (x0 x1 x2 : Addr) : entryFrame m #[(.ref x0), (.ref x1), (.ref x2), .null] 4 = mkF m 0 #[vr x0, vr x1, vr x2, vn] [] := by first | (simp [entryFrame, mkF, argsToLocals, Value.category]; done) | rfl
theorem rm_newNode_156 (hw : HW a0 Z) (a1 a2 a3 : Addr) (h0 : Heap) (n0 : Nat) (Z0 : n0 ≤ h0.size)  :
    Ctr l Y14 B13 4 (some F1_) [] (rmk 2 1 6 28) Z #[(.ref a1), (.ref a2), (.ref a3), .null] h0 (fun v h L => ∃ f1, v = some (.ref f1) ∧ Fr n0 L ∧ Keep h0 h [] ∧ h0.size ≤ f1 ∧ R_ND Z h f1 (.ref a2) (.ref a3) .null .null .null (.int (-2147483648))) := by
  refine own_enter pn_2 (fun p e s m below meth c s₁ hx hby hml hown hnm hret hlk hZ X0 e0 => ?_)
  have N0 := Fr.nil n0
  have K0 := Keep.refl h0 []
  rw [ef_12_RRRn m _ _ _ ]
  obtain ⟨T1, h1, X1, e1, E1, A1, D1, -, st1⟩ := newO X0 hx hZ hown (Wd75 hw) (Wd76 hw) (Wd77 hw) e0 (g := (mkF m 0 #[vr a1, vr a2, vr a3, vn] [])) rfl (hb hby d12_0) (by decide) (by decide)
  obtain ⟨b1, g1⟩ : ∃ z, z = h0.size := ⟨_, rfl⟩
  rw [← g1] at A1 D1 st1
  have g_b1 : n0 ≤ b1 := Nat.le_trans Z0 (Nat.le_of_eq g1.symm)
  have Z1 : n0 ≤ h1.size := Nat.le_trans Z0 E1.1
  have sz_b1 : h0.size ≤ b1 := Nat.le_trans K0.1 (Nat.le_of_eq g1.symm)
  have K1 := Keep.ext K0 E1
  have O1 : R_ND Z h1 b1 .null .null .null .null .null (.int 0) := ⟨A1, D1 (Or.inl (Wd86 hw)) (ty := F3_) (by decide), D1 (Or.inl (Wd88 hw)) (ty := F3_) (by decide), D1 (Or.inl (Wd102 hw)) (ty := F1_) (by decide), D1 (Or.inl (Wd104 hw)) (ty := F1_) (by decide), D1 (Or.inl (Wd90 hw)) (ty := F1_) (by decide), D1 (Or.inl (Wd84 hw)) (ty := FieldType.int) (by decide)⟩
  refine Go.mp st1 ?_
  show Go p e below (T1.setTop (mkF m 3 #[vr a1, vr a2, vr a3, vn] [(.ref b1)])) _
  refine g_dup X1 hx (hb hby d12_3) rfl ?_
  refine g_aloadN X1 hx (hb hby d12_4) rfl rfl ?_
  refine g_aloadN X1 hx (hb hby d12_5) rfl rfl ?_
  refine g_aloadN X1 hx (hb hby d12_6) rfl rfl ?_
  refine g_I X1 hx hZ hown (lk12 hw) (rm_init_157 hw b1 a2 a3 h1 n0 Z1 O1 g_b1) e1 (hb hby d12_7) hml.symm rfl (rest := [(.ref b1)]) rfl (W := 1) (Nat.le_of_eq rfl) (by decide) (fun v2 T2 L2 X2 q2 => ?_)
  obtain ⟨rfl, M2, Kc2, Rk2_0⟩ := q2
  have N2 := Fr.app N0 M2
  have K2 := Keep.trans K1 Kc2 (own_memc (Or.inr sz_b1) own_memn)
  exact own_retA X2 hx hret hlk rfl rfl (hb hby d12_10) (by decide) (by decide) (by rw [(rfl : T2.heap = T2.heap)]; exact ⟨b1, rfl, N2, K2, sz_b1, Rk2_0⟩)
theorem rm_setRed_158 (hw : HW a0 Z) (a1 a2 a3 : Addr) (h0 : Heap) (n0 : Nat) (Z0 : n0 ≤ h0.size) (O_a1 : R_ND Z h0 a1 (.ref a2) (.ref a3) .null .null .null (.int (-2147483648))) (g_a1 : n0 ≤ a1) :
    Ctr l Y17 B16 2 none [] (rmk 0 0 0 0) Z #[(.ref a1), (.int 0)] h0 (fun v h L => v = none ∧ Fr n0 L ∧ Keep h0 h [a1] ∧ R_ND Z h a1 (.ref a2) (.ref a3) .null .null .null (.int 0)) := by
  refine own_enter pn_2 (fun p e s m below meth c s₁ hx hby hml hown hnm hret hlk hZ X0 e0 => ?_)
  have N0 := Fr.nil n0
  have K0 := Keep.refl h0 [a1]
  rw [ef_14_RI m _ _]
  refine g_aloadN X0 hx (hb hby d14_0) rfl rfl ?_
  refine g_iloadN X0 hx (hb hby d14_1) rfl ?_
  refine g_ifYes X0 hx 16 (hb hby d14_2) ((if0 _ _).trans (teq ((by decide) : (0 : Int32) = (0 : Int32))).1) (by decide) (by decide) ?_
  refine g_aloadN X0 hx (hb hby d14_16) rfl rfl ?_
  refine g_getF X0 hx hZ hown (Wd94 hw) e0 O_a1.2.2.2.2.2.2 (hb hby d14_17) (fun T1 X1 e1 => ?_)
  refine g_ldcw X1 hx hZ hown (Wd95 hw) (hb hby d14_20) ?_
  refine g_iand X1 hx (hb hby d14_23) ?_
  show Go p e below (T1.setTop (mkF m 24 #[vr a1, vi 0] [(.int ((-2147483648 : Int32) &&& (2147483647 : Int32))), (.ref a1)])) _
  rw [show ((-2147483648 : Int32) &&& (2147483647 : Int32)) = (0 : Int32) from by decide]
  refine g_putF X1 hx hZ hown (Wd94 hw) e1 O_a1.2.2.2.2.2.2 O_a1.1 (Or.inl (Wd84 hw)) (Wd76 hw) fd_0 rfl rfl (hb hby d14_24) (fun T2 h2 X2 e2 W2 => ?_)
  have N2 := Fr.snoc X2 N0 g_a1
  have O_a1_2 := R_ND_set_redAndLeftCount hw W2 O_a1
  have K2 := Keep.wr K0 W2 (mw 0 rfl)
  exact own_retV X2 hx hret hlk (hb hby d14_27) (by decide) (by decide) (by rw [e2]; exact ⟨rfl, N2, K2, O_a1_2⟩)
theorem d33_7 : decode B18 7 = .ok (.aload_n 0, 1) := by decide +kernel
theorem d33_8 : decode B18 8 = .ok (.aload_n 1, 1) := by decide +kernel
theorem d33_9 : decode B18 9 = .ok (.aload_n 1, 1) := by decide +kernel
theorem d33_10 : decode B18 10 = .ok (.invokevirtual 217, 3) := by decide +kernel
theorem d33_13 : decode B18 13 = .ok (.pop, 1) := by decide +kernel
theorem d33_14 : decode B18 14 = .ok (.aload_n 0, 1) := by decide +kernel
theorem d33_15 : decode B18 15 = .ok (.aload_n 0, 1) := by decide +kernel
theorem d33_16 : decode B18 16 = .ok (.aload_n 1, 1) := by decide +kernel
theorem d33_17 : decode B18 17 = .ok (.aload_n 2, 1) := by decide +kernel
theorem d33_18 : decode B18 18 = .ok (.aconst_null, 1) := by decide +kernel
theorem d33_19 : decode B18 19 = .ok (.invokevirtual 233, 3) := by decide +kernel
theorem d33_22 : decode B18 22 = .ok (.putfield 22, 3) := by decide +kernel
theorem d33_25 : decode B18 25 = .ok (.aload_n 0, 1) := by decide +kernel
theorem d33_26 : decode B18 26 = .ok (.getfield 22, 3) := by decide +kernel
theorem d33_29 : decode B18 29 = .ok (.iconst 0, 1) := by decide +kernel
theorem d33_30 : decode B18 30 = .ok (.invokestatic 237, 3) := by decide +kernel
theorem d33_33 : decode B18 33 = .ok (.aload_n 0, 1) := by decide +kernel
theorem d33_34 : decode B18 34 = .ok (.iconst 1, 1) := by decide +kernel
theorem d33_35 : decode B18 35 = .ok (.putfield 18, 3) := by decide +kernel
theorem d33_38 : decode B18 38 = .ok (.aload_n 0, 1) := by decide +kernel
theorem d33_39 : decode B18 39 = .ok (.dup, 1) := by decide +kernel
theorem d33_40 : decode B18 40 = .ok (.getfield 51, 3) := by decide +kernel
theorem d33_43 : decode B18 43 = .ok (.iconst 1, 1) := by decide +kernel
theorem d33_44 : decode B18 44 = .ok (.iadd, 1) := by decide +kernel
theorem d33_45 : decode B18 45 = .ok (.putfield 51, 3) := by decide +kernel
theorem d33_48 : decode B18 48 = .ok (.aconst_null, 1) := by decide +kernel
theorem d33_49 : decode B18 49 = .ok (.areturn, 1) := by decide +kernel
theorem rm_addIfAbsent_151 (hw : HW a0 Z) (a1 a2 a3 : Addr) (i1 i2 : Int32) (h0 : Heap) (n0 : Nat) (Z0 : n0 ≤ h0.size) (O_a1 : R_MP Z h0 a1 .null .null (.int 0) (.int i1)) (O_a2 : R_IN Z h0 a2 (.int i2)) (g_a1 : n0 ≤ a1) :
    CtrH l Y19 B18 15 (some F1_) [(71, 122, 210, 0), (137, 195, 210, 0), (210, 212, 210, 0)] (rmk 4 1 6 53) Z #[(.ref a1), (.ref a2), (.ref a3)] h0 (fun v h L => ∃ f1, v = some .null ∧ Fr n0 L ∧ Keep h0 h [a1] ∧ h0.size ≤ f1 ∧ R_MP Z h a1 .null (.ref f1) (.int 1) (.int (i1 + (1 : Int32))) ∧ R_ND Z h f1 (.ref a2) (.ref a3) .null .null .null (.int 0)) := by
  refine own_enterH pn_2 (fun p e s m below meth c s₁ hx hby hml hown hnm hret hlk hZ X0 e0 => ?_)
  have D {q : Nat} {r} (z : decode B18 q = r) : decode c.code q = r := hb hby z
  have N0 := Fr.nil n0
  have K0 := Keep.refl h0 [a1]
  rw [ef_33_RRR m _ _ _]
  refine g_aloadN X0 hx (D d33_0) rfl rfl ?_
  refine g_getF X0 hx hZ hown (Wd25 hw) e0 O_a1.2.2.1 (D d33_1) (fun T1 X1 e1 => ?_)
  refine g_nonnullNo X1 hx (D d33_4) ?_
  refine g_aloadN X1 hx (D d33_7) rfl rfl ?_
  refine g_aloadN X1 hx (D d33_8) rfl rfl ?_
  refine g_aloadN X1 hx (D d33_9) rfl rfl ?_
  refine g_V X1 hx hZ hown (lk10 hw) (rm_compare_152 hw a1 a2 i1 i2 h0 n0 Z0 O_a1 O_a2) e1 O_a1.1 (D d33_10) hml.symm rfl rfl (Nat.le_refl _) (by decide) (fun v2 T2 L2 X2 q2 => ?_)
  obtain ⟨rfl, M2, e2⟩ := q2
  have N2 := Fr.app N0 M2
  refine g_pop X2 hx (D d33_13) rfl ?_
  refine g_aloadN X2 hx (D d33_14) rfl rfl ?_
  refine g_aloadN X2 hx (D d33_15) rfl rfl ?_
  refine g_aloadN X2 hx (D d33_16) rfl rfl ?_
  refine g_aloadN X2 hx (D d33_17) rfl rfl ?_
  refine g_null X2 hx (D d33_18) ?_
  refine g_V X2 hx hZ hown (lk13 hw) (rm_newNode_156 hw a1 a2 a3 h0 n0 Z0 ) e2 O_a1.1 (D d33_19) hml.symm rfl (rest := [(.ref a1)]) rfl (W := 1) (Nat.le_of_eq rfl) (by decide) (fun v3 T3 L3 X3 q3 => ?_)
  obtain ⟨b3_0, rfl, M3, Kc3, zb3_0, Rk3_0⟩ := q3
  have N3 := Fr.app N2 M3
  have ne_a1_b3_0 : a1 ≠ b3_0 := Nat.ne_of_lt (Nat.lt_of_lt_of_le O_a1.1.lt zb3_0)
  have g_b3_0 : n0 ≤ b3_0 := Nat.le_trans Z0 zb3_0
  have sz_b3_0 : h0.size ≤ b3_0 := Nat.le_trans K0.1 zb3_0
  have O_a1_3 := R_MP_keep O_a1 Kc3 nl
  have K3 := Keep.trans K0 Kc3 own_memn
  have Z3 : n0 ≤ T3.heap.size := Nat.le_trans Z0 Kc3.1
  refine g_putF X3 hx hZ hown (Wd25 hw) (rfl : T3.heap = T3.heap) O_a1_3.2.2.1 O_a1_3.1 (Or.inl (Wd26 hw)) (Wd2 hw) fd_2 rfl rfl (D d33_22) (fun T4 h4 X4 e4 W4 => ?_)
  have N4 := Fr.snoc X4 N3 g_a1
  have O_a1_4 := R_MP_set_root hw W4 O_a1_3
  have O_b3_0_4 := R_ND_other W4 Rk3_0 ne_a1_b3_0.symm
  have Z4 : n0 ≤ h4.size := Nat.le_trans Z3 (Nat.le_of_eq W4.size.symm)
  have K4 := Keep.wr K3 W4 (mw 0 rfl)
  refine g_aloadN X4 hx (D d33_25) rfl rfl ?_
  refine g_getF X4 hx hZ hown (Wd25 hw) e4 O_a1_4.2.2.1 (D d33_26) (fun T5 X5 e5 => ?_)
  refine g_iconst X5 hx (0 : Int32) (D d33_29) (by decide) ?_
  refine g_S X5 hx hZ hown (lk16 hw) (rm_setRed_158 hw b3_0 a2 a3 h4 n0 Z4 O_b3_0_4 g_b3_0) e5 (D d33_30) hml.symm rfl rfl (Nat.le_refl _) (by decide) (fun v6 T6 L6 X6 q6 => ?_)
  obtain ⟨rfl, M6, Kc6, Rk6_0⟩ := q6
  have N6 := Fr.app N4 M6
  have O_a1_6 := R_MP_keep O_a1_4 Kc6 (own_nin ne_a1_b3_0 nl)
  have K6 := Keep.trans K4 Kc6 (own_memc (Or.inr sz_b3_0) own_memn)
  refine g_aloadN X6 hx (D d33_33) rfl rfl ?_
  refine g_iconst X6 hx (1 : Int32) (D d33_34) (by decide) ?_
  refine g_putF X6 hx hZ hown (Wd96 hw) (rfl : T6.heap = T6.heap) O_a1_6.2.2.2.1 O_a1_6.1 (Or.inl (Wd97 hw)) (Wd2 hw) fd_0 rfl rfl (D d33_35) (fun T7 h7 X7 e7 W7 => ?_)
  have N7 := Fr.snoc X7 N6 g_a1
  have O_a1_7 := R_MP_set_size hw W7 O_a1_6
  have O_b3_0_7 := R_ND_other W7 Rk6_0 ne_a1_b3_0.symm
  have K7 := Keep.wr K6 W7 (mw 0 rfl)
  refine g_aloadN X7 hx (D d33_38) rfl rfl ?_
  refine g_dup X7 hx (D d33_39) rfl ?_
  refine g_getF X7 hx hZ hown (Wd98 hw) e7 O_a1_7.2.2.2.2 (D d33_40) (fun T8 X8 e8 => ?_)
  refine g_iconst X8 hx (1 : Int32) (D d33_43) (by decide) ?_
  refine g_iadd X8 hx (D d33_44) ?_
  refine g_putF X8 hx hZ hown (Wd98 hw) e8 O_a1_7.2.2.2.2 O_a1_7.1 (Or.inl (Wd99 hw)) (Wd2 hw) fd_0 rfl rfl (D d33_45) (fun T9 h9 X9 e9 W9 => ?_)
  have N9 := Fr.snoc X9 N7 g_a1
  have O_a1_9 := R_MP_set_modCount hw W9 O_a1_7
  have O_b3_0_9 := R_ND_other W9 O_b3_0_7 ne_a1_b3_0.symm
  have K9 := Keep.wr K7 W9 (mw 0 rfl)
  refine g_null X9 hx (D d33_48) ?_
  exact own_retA X9 hx hret hlk rfl rfl (D d33_49) (by decide) (by decide) (by rw [e9]; exact ⟨b3_0, rfl, N9, K9, sz_b3_0, O_a1_9, O_b3_0_9⟩)
theorem rm_put_150 (hw : HW a0 Z) (a1 a2 a3 : Addr) (i1 i2 : Int32) (h0 : Heap) (n0 : Nat) (Z0 : n0 ≤ h0.size) (O_a1 : R_MP Z h0 a1 .null .null (.int 0) (.int i1)) (O_a2 : R_IN Z h0 a2 (.int i2)) (g_a1 : n0 ≤ a1) :
    Ctr l Y20 B19 4 (some F3_) [] (rmk 5 1 6 79) Z #[(.ref a1), (.ref a2), (.ref a3)] h0 (fun v h L => ∃ f1, v = some .null ∧ Fr n0 L ∧ Keep h0 h [a1] ∧ h0.size ≤ f1 ∧ R_MP Z h a1 .null (.ref f1) (.int 1) (.int (i1 + (1 : Int32))) ∧ R_ND Z h f1 (.ref a2) (.ref a3) .null .null .null (.int 0)) := by
  refine own_enter pn_2 (fun p e s m below meth c s₁ hx hby hml hown hnm hret hlk hZ X0 e0 => ?_)
  have N0 := Fr.nil n0
  have K0 := Keep.refl h0 [a1]
  rw [ef_7_RRR m _ _ _]
  refine g_aloadN X0 hx (hb hby d7_0) rfl rfl ?_
  refine g_aloadN X0 hx (hb hby d7_1) rfl rfl ?_
  refine g_aloadN X0 hx (hb hby d7_2) rfl rfl ?_
  refine g_PH X0 hx hZ hown (lk18 hw) (rm_addIfAbsent_151 hw a1 a2 a3 i1 i2 h0 n0 Z0 O_a1 O_a2 g_a1) e0 O_a1.1 (hb hby d7_3) hml.symm rfl rfl (Nat.le_refl _) (by decide) (fun v1 T1 L1 X1 q1 => ?_)
  obtain ⟨b1_0, rfl, M1, Kc1, zb1_0, Rk1_0, Rk1_1⟩ := q1
  have N1 := Fr.app N0 M1
  have sz_b1_0 : h0.size ≤ b1_0 := Nat.le_trans K0.1 zb1_0
  have K1 := Keep.trans K0 Kc1 (own_memc (mw 0 rfl) own_memn)
  refine g_astoreN X1 hx #[vr a1, vr a2, vr a3, vn] (hb hby d7_6) rfl rfl ?_
  refine g_aloadN X1 hx (hb hby d7_7) rfl rfl ?_
  refine g_nonnullNo X1 hx (hb hby d7_8) ?_
  refine g_null X1 hx (hb hby d7_11) ?_
  refine g_goto X1 hx 21 (hb hby d7_12) (by decide) (by decide) ?_
  exact own_retA X1 hx hret hlk rfl rfl (hb hby d7_21) (by decide) (by decide) (by rw [(rfl : T1.heap = T1.heap)]; exact ⟨b1_0, rfl, N1, K1, sz_b1_0, Rk1_0, Rk1_1⟩)
theorem seg_17_E (hw : HW a0 Z) (wc : Addr) (clc : Cell) (p1 p2 : Int32) (p3 p4 : Int32) (p5 n : Int32) (M : Addr) (mc : Int32) (h0 : Heap) (n0 : Nat) (Z0 : n0 ≤ h0.size) (hN : Z.heap.size ≤ n0) (C1 : Sta Z Z.heap "java/lang/Integer$IntegerCache" "high" "I" (.int 127)) (C2 : Sta Z Z.heap "java/lang/Integer$IntegerCache" "cache" "[Ljava/lang/Integer;" (.ref wc)) (BX : Bxs Z wc clc "java/lang/Integer" "I" (256 : Int32) (fun j => .int (j - (128 : Int32)))) (KO : Keep Z.heap h0 []) (O_M : R_MP Z h0 M .null .null (.int 0) (.int mc)) (g_M : n0 ≤ M) (h0n : ¬ n < (0 : Int32)) {p : Program} {e : Env} {s : State} {m : MethodId} {below : List Frame} {meth : Method} {c : Code} {args : Array Value} {s₁ : State} {lo : List Loc} (hx : p.tables.exec = Jvm.exec) (hby : c.code = code) (hml : c.maxLocals = maxLocals) (hown : s.vm.findClass "com/example/rosewood/rosewood/RosewoodMapFirstPinLaw" = some m.cls) (hnm : meth.name = "law") (hret : meth.sig.returnType = ret) (hlk : meth.locks = false) (hZ : Z.Warmed39 s.vm) (X0 : Stand p l e room_1 s m args below meth c s₁ lo 1 7) (e0 : s₁.heap = h0) (N0 : Fr n0 lo) :
    Go p e below (s₁.setTop (mkF m 17 #[vi p1, vi p2, vi p3, vi p4, vi p5, vi n, vr M, vu, vu, vu] [])) (FinE s room_1.cells room_1.slots (fun v h L => v = some (.int 1) ∧ Fr n0 L)) := by
  refine g_iload X0 hx (hb hby at_17) rfl ?_
  refine g_iconst X0 hx (1 : Int32) (hb hby at_19) (by decide) ?_
  by_cases c20_1 : n < (1 : Int32)
  · refine g_icmpYes X0 hx 37 (hb hby at_20) (tlt c20_1).1 (by decide) (by decide) ?_
    exact seg_37_E hw p1 p2 p3 p4 p5 n M mc h0 n0 Z0 O_M g_M c20_1 h0n hx hby hml hown hnm hret hlk hZ (Stand.more X0 (by decide) (by decide)) e0 N0
  · refine g_icmpNo X0 hx (hb hby at_20) (flt c20_1).1 ?_
    refine g_aload X0 hx (hb hby at_23) rfl rfl ?_
    refine g_iloadN X0 hx (hb hby at_25) rfl ?_
    refine g_S X0 hx hZ hown (lk5 hw) (rm_valueOf hw wc clc p2 h0 n0 Z0 hN C1 C2 BX KO) e0 (hb hby at_26) hml.symm rfl (rest := [(.ref M)]) rfl (W := 1) (Nat.le_of_eq rfl) (by decide) (fun v2 T2 L2 X2 q2 => ?_)
    obtain ⟨b2, rfl, M2, Kc2, O2⟩ := q2
    have N2 := Fr.app N0 M2
    have O_M_2 := R_MP_keep O_M Kc2 nl
    have KO_2 := Keep.trans KO Kc2 own_memn
    have ne_M_b2 : M ≠ b2 := own_exane O_M_2.1 O2.1 (by decide)
    have Z2 : n0 ≤ T2.heap.size := Nat.le_trans Z0 Kc2.1
    refine g_iconst X2 hx (0 : Int32) (hb hby at_29) (by decide) ?_
    refine g_S X2 hx hZ hown (lk5 hw) (rm_valueOf hw wc clc (0 : Int32) T2.heap n0 Z2 hN C1 C2 BX KO_2) (rfl : T2.heap = T2.heap) (hb hby at_30) hml.symm rfl (rest := [(.ref b2), (.ref M)]) rfl (W := 2) (Nat.le_of_eq rfl) (by decide) (fun v3 T3 L3 X3 q3 => ?_)
    obtain ⟨b3, rfl, M3, Kc3, O3⟩ := q3
    have N3 := Fr.app N2 M3
    have O_M_3 := R_MP_keep O_M_2 Kc3 nl
    have KO_3 := Keep.trans KO_2 Kc3 own_memn
    have O_b2_3 := R_IN_keep O2 Kc3 nl
    have ne_M_b3 : M ≠ b3 := own_exane O_M_3.1 O3.1 (by decide)
    have Z3 : n0 ≤ T3.heap.size := Nat.le_trans Z2 Kc3.1
    refine g_V X3 hx hZ hown (lk19 hw) (rm_put_150 hw M b2 b3 mc p2 T3.heap n0 Z3 O_M_3 O_b2_3 g_M) (rfl : T3.heap = T3.heap) O_M_3.1 (hb hby at_33) hml.symm rfl rfl (Nat.le_refl _) (by decide) (fun v4 T4 L4 X4 q4 => ?_)
    obtain ⟨b4_0, rfl, M4, Kc4, zb4_0, Rk4_0, Rk4_1⟩ := q4
    have N4 := Fr.app N3 M4
    have ne_M_b4_0 : M ≠ b4_0 := Nat.ne_of_lt (Nat.lt_of_lt_of_le O_M_3.1.lt zb4_0)
    have ne_b2_b4_0 : b2 ≠ b4_0 := Nat.ne_of_lt (Nat.lt_of_lt_of_le O_b2_3.1.lt zb4_0)
    have ne_b3_b4_0 : b3 ≠ b4_0 := Nat.ne_of_lt (Nat.lt_of_lt_of_le O3.1.lt zb4_0)
    have g_b4_0 : n0 ≤ b4_0 := Nat.le_trans Z3 zb4_0
    have KO_4 := Keep.trans KO_3 Kc4 (own_memc (Or.inr (Nat.le_trans hN g_M)) own_memn)
    have O_b2_4 := R_IN_keep O_b2_3 Kc4 (own_nin ne_M_b2.symm nl)
    have O_b3_4 := R_IN_keep O3 Kc4 (own_nin ne_M_b3.symm nl)
    have Z4 : n0 ≤ T4.heap.size := Nat.le_trans Z3 Kc4.1
    refine g_pop X4 hx (hb hby at_36) rfl ?_
    exact seg_37_1 hw wc clc p1 p2 p3 p4 p5 n M (mc + (1 : Int32)) b4_0 b2 b3 T4.heap n0 Z4 hN C1 C2 BX KO_4 Rk4_0 Rk4_1 O_b2_4 O_b3_4 ne_M_b4_0 ne_M_b2 ne_M_b3 ne_b2_b4_0.symm ne_b3_b4_0.symm g_M g_b4_0 (by have u0 : ¬ (n < (1 : Int32)) := c20_1; have u1 := h0n; (try simp only [own_T, own_R, Int32.lt_iff_toInt_lt, ← Int32.toInt_inj, Int32.reduceToInt] at u0 u1) <;> (try simp only [own_T, own_R, Int32.lt_iff_toInt_lt, ← Int32.toInt_inj, Int32.reduceToInt]) <;> first | omega | (simp; done) | (simp; omega)) hx hby hml hown hnm hret hlk hZ (Stand.more X4 (by decide) (by decide)) (rfl : T4.heap = T4.heap) N4
theorem ef_3_R (m : MethodId) (x0 : Addr) : entryFrame m #[(.ref x0)] 1 = mkF m 0 #[vr x0] [] := by first | (simp [entryFrame, mkF, argsToLocals, Value.category]; done) | rfl
theorem pn_4 : plainName "java/util/AbstractMap" = true := by first | (simp [plainName, overriddenIn]; done) | decide +kernel
theorem d3_0 : decode B29 0 = .ok (.aload_n 0, 1) := by decide +kernel
theorem d3_1 : decode B29 1 = .ok (.invokespecial 1, 3) := by decide +kernel
theorem d3_4 : decode B29 4 = .ok (.return_, 1) := by decide +kernel
theorem rm_init_161 (hw : HW a0 Z) (a1 : Addr) (h0 : Heap) (n0 : Nat) (Z0 : n0 ≤ h0.size)  :
    Ctr l Y30 B29 1 none [] (rmk 1 0 0 12) Z #[(.ref a1)] h0 (fun v h L => v = none ∧ Fr n0 L ∧ h = h0) := by
  refine own_enter pn_4 (fun p e s m below meth c s₁ hx hby hml hown hnm hret hlk hZ X0 e0 => ?_)
  have N0 := Fr.nil n0
  have K0 := Keep.refl h0 []
  rw [ef_3_R m _]
  refine g_aloadN X0 hx (hb hby d3_0) rfl rfl ?_
  refine g_init X0 hx hZ hown (hw _ (List.mem_of_getElem? (i := 15) rfl)) (Wd16 hw) (Wd17 hw) e0 (by rw [hml]; rfl) (hb hby d3_1) (by decide) (W := 0) (Nat.le_of_eq rfl) (by decide) (fun T1 X1 e1 => ?_)
  exact own_retV X1 hx hret hlk (hb hby d3_4) (by decide) (by decide) ⟨rfl, N0, e1⟩
theorem lk29 {Z : State} {a0 : Array Value} (hw : HW a0 Z) : LkI "com/example/rosewood/rosewood/RosewoodMap" 9 Y30 B29 1 [] none a0 Z := ⟨(hw _ (List.mem_of_getElem? (i := 10) rfl)), (hw _ (List.mem_of_getElem? (i := 11) rfl)), (hw _ (List.mem_of_getElem? (i := 14) rfl)), (hw _ (List.mem_of_getElem? (i := 13) rfl)), rfl, by decide, pd_0⟩
theorem fd_3 : parseFieldDescriptor "Ljava/util/Comparator;" = some F2_ := by decide
theorem ef_2_Rn (m : MethodId) (x0 : Addr) : entryFrame m #[(.ref x0), .null] 2 = mkF m 0 #[vr x0, vn] [] := by first | (simp [entryFrame, mkF, argsToLocals, Value.category]; done) | rfl
theorem d2_0 : decode B30 0 = .ok (.aload_n 0, 1) := by decide +kernel
theorem d2_1 : decode B30 1 = .ok (.invokespecial 9, 3) := by decide +kernel
theorem d2_4 : decode B30 4 = .ok (.aload_n 0, 1) := by decide +kernel
theorem d2_5 : decode B30 5 = .ok (.aload_n 1, 1) := by decide +kernel
theorem d2_6 : decode B30 6 = .ok (.putfield 14, 3) := by decide +kernel
theorem d2_9 : decode B30 9 = .ok (.return_, 1) := by decide +kernel
theorem rm_init_160 (hw : HW a0 Z) (a1 : Addr) (h0 : Heap) (n0 : Nat) (Z0 : n0 ≤ h0.size) (O_a1 : R_MP Z h0 a1 .null .null (.int 0) (.int 0)) (g_a1 : n0 ≤ a1) :
    Ctr l Y31 B30 2 none [] (rmk 2 0 0 24) Z #[(.ref a1), .null] h0 (fun v h L => v = none ∧ Fr n0 L ∧ Keep h0 h [a1] ∧ R_MP Z h a1 .null .null (.int 0) (.int 0)) := by
  refine own_enter pn_2 (fun p e s m below meth c s₁ hx hby hml hown hnm hret hlk hZ X0 e0 => ?_)
  have N0 := Fr.nil n0
  have K0 := Keep.refl h0 [a1]
  rw [ef_2_Rn m _ ]
  refine g_aloadN X0 hx (hb hby d2_0) rfl rfl ?_
  refine g_I X0 hx hZ hown (lk29 hw) (rm_init_161 hw a1 h0 n0 Z0 ) e0 (hb hby d2_1) hml.symm rfl rfl (Nat.le_refl _) (by decide) (fun v1 T1 L1 X1 q1 => ?_)
  obtain ⟨rfl, M1, e1⟩ := q1
  have N1 := Fr.app N0 M1
  refine g_aloadN X1 hx (hb hby d2_4) rfl rfl ?_
  refine g_aloadN X1 hx (hb hby d2_5) rfl rfl ?_
  refine g_putF X1 hx hZ hown (Wd18 hw) e1 O_a1.2.1 O_a1.1 (Or.inr ⟨(Wd19 hw), rfl, hnm⟩) (Wd2 hw) fd_3 rfl rfl (hb hby d2_6) (fun T2 h2 X2 e2 W2 => ?_)
  have N2 := Fr.snoc X2 N1 g_a1
  have O_a1_2 := R_MP_set_comparator hw W2 O_a1
  have K2 := Keep.wr K0 W2 (mw 0 rfl)
  exact own_retV X2 hx hret hlk (hb hby d2_9) (by decide) (by decide) (by rw [e2]; exact ⟨rfl, N2, K2, O_a1_2⟩)
theorem pd_24 : parseMethodDescriptor "(Ljava/util/Comparator;)V" = some ⟨[F2_], none⟩ := by decide +kernel
theorem lk30 {Z : State} {a0 : Array Value} (hw : HW a0 Z) : LkI "com/example/rosewood/rosewood/RosewoodMap" 3 Y31 B30 2 [F2_] none a0 Z := ⟨(hw _ (List.mem_of_getElem? (i := 7) rfl)), (hw _ (List.mem_of_getElem? (i := 8) rfl)), (hw _ (List.mem_of_getElem? (i := 9) rfl)), (Wd3 hw), rfl, by decide, pd_24⟩
theorem ef_1_R (m : MethodId) (x0 : Addr) : entryFrame m #[(.ref x0)] 1 = mkF m 0 #[vr x0] [] := by first | (simp [entryFrame, mkF, argsToLocals, Value.category]; done) | rfl
theorem d1_0 : decode B31 0 = .ok (.aload_n 0, 1) := by decide +kernel
theorem d1_1 : decode B31 1 = .ok (.aconst_null, 1) := by decide +kernel
theorem d1_2 : decode B31 2 = .ok (.invokespecial 3, 3) := by decide +kernel
theorem d1_5 : decode B31 5 = .ok (.return_, 1) := by decide +kernel
theorem rm_init_159 (hw : HW a0 Z) (a1 : Addr) (h0 : Heap) (n0 : Nat) (Z0 : n0 ≤ h0.size) (O_a1 : R_MP Z h0 a1 .null .null (.int 0) (.int 0)) (g_a1 : n0 ≤ a1) :
    Ctr l Y32 B31 1 none [] (rmk 3 0 0 37) Z #[(.ref a1)] h0 (fun v h L => v = none ∧ Fr n0 L ∧ Keep h0 h [a1] ∧ R_MP Z h a1 .null .null (.int 0) (.int 0)) := by
  refine own_enter pn_2 (fun p e s m below meth c s₁ hx hby hml hown hnm hret hlk hZ X0 e0 => ?_)
  have N0 := Fr.nil n0
  have K0 := Keep.refl h0 [a1]
  rw [ef_1_R m _]
  refine g_aloadN X0 hx (hb hby d1_0) rfl rfl ?_
  refine g_null X0 hx (hb hby d1_1) ?_
  refine g_I X0 hx hZ hown (lk30 hw) (rm_init_160 hw a1 h0 n0 Z0 O_a1 g_a1) e0 (hb hby d1_2) hml.symm rfl rfl (Nat.le_refl _) (by decide) (fun v1 T1 L1 X1 q1 => ?_)
  obtain ⟨rfl, M1, Kc1, Rk1_0⟩ := q1
  have N1 := Fr.app N0 M1
  have K1 := Keep.trans K0 Kc1 (own_memc (mw 0 rfl) own_memn)
  exact own_retV X1 hx hret hlk (hb hby d1_5) (by decide) (by decide) (by rw [(rfl : T1.heap = T1.heap)]; exact ⟨rfl, N1, K1, Rk1_0⟩)
theorem lk31 {Z : State} {a0 : Array Value} (hw : HW a0 Z) : LkI "com/example/rosewood/rosewood/RosewoodMapFirstPinLaw" 10 Y32 B31 1 [] none a0 Z := ⟨(hw _ (List.mem_of_getElem? (i := 4) rfl)), (hw _ (List.mem_of_getElem? (i := 5) rfl)), (hw _ (List.mem_of_getElem? (i := 6) rfl)), (Wd3 hw), rfl, by decide, pd_0⟩
theorem ef_0_IIIII (m : MethodId) (x0 x1 : Int32) (x2 x3 x4 : Int32) : entryFrame m #[(.int x0), (.int x1), (.int x2), (.int x3), (.int x4)] maxLocals = mkF m 0 #[vi x0, vi x1, vi x2, vi x3, vi x4, vu, vu, vu, vu, vu] [] := by first | (simp [entryFrame, mkF, argsToLocals, Value.category, maxLocals]; done) | rfl
theorem pn_5 : plainName "com/example/rosewood/rosewood/RosewoodMapFirstPinLaw" = true := by first | (simp [plainName, overriddenIn]; done) | decide +kernel
theorem rm_law (hw : HW a0 Z) (p1 p2 : Int32) (p3 p4 p5 : Int32) (wc : Addr) (clc : Cell) (h0 : Heap) (n0 : Nat) (Z0 : n0 ≤ h0.size) (hN : Z.heap.size ≤ n0) (C1 : Sta Z Z.heap "java/lang/Integer$IntegerCache" "high" "I" (.int 127)) (C2 : Sta Z Z.heap "java/lang/Integer$IntegerCache" "cache" "[Ljava/lang/Integer;" (.ref wc)) (BX : Bxs Z wc clc "java/lang/Integer" "I" (256 : Int32) (fun j => .int (j - (128 : Int32)))) (KO : Keep Z.heap h0 []) :
    Ctr l x code maxLocals ret tables_1 room_1 Z #[(.int p1), (.int p2), (.int p3), (.int p4), (.int p5)] h0 (fun v h L => v = some (.int 1) ∧ Fr n0 L) := by
  refine own_enter pn_5 (fun p e s m below meth c s₁ hx hby hml hown hnm hret hlk hZ X0 e0 => ?_)
  have N0 := Fr.nil n0
  rw [ef_0_IIIII m _ _ _ _ _]
  refine g_iloadN X0 hx (hb hby at_0) rfl ?_
  refine g_ldc X0 hx hZ hown (hw _ (List.mem_of_getElem? (i := 0) rfl)) (hb hby at_1) ?_
  refine g_iand X0 hx (hb hby at_3) ?_
  refine g_iconst X0 hx (5 : Int32) (hb hby at_4) (by decide) ?_
  refine g_irem X0 hx (hb hby at_5) (by decide) ?_
  refine g_istore X0 hx #[vi p1, vi p2, vi p3, vi p4, vi p5, .val (.int ((p1 &&& (2147483647 : Int32)) % (5 : Int32))), vu, vu, vu, vu] (hb hby at_6) rfl ?_
  obtain ⟨T1, h1, X1, e1, E1, A1, D1, -, st1⟩ := newO X0 hx hZ hown (hw _ (List.mem_of_getElem? (i := 1) rfl)) (Wd2 hw) (Wd3 hw) e0 (g := (mkF m 8 #[vi p1, vi p2, vi p3, vi p4, vi p5, .val (.int ((p1 &&& (2147483647 : Int32)) % (5 : Int32))), vu, vu, vu, vu] [])) rfl (hb hby at_8) (by decide) (by decide)
  obtain ⟨b1, g1⟩ : ∃ z, z = h0.size := ⟨_, rfl⟩
  rw [← g1] at A1 D1 st1
  have g_b1 : n0 ≤ b1 := Nat.le_trans Z0 (Nat.le_of_eq g1.symm)
  have Z1 : n0 ≤ h1.size := Nat.le_trans Z0 E1.1
  have KO_1 := Keep.ext KO E1
  have O1 : R_MP Z h1 b1 .null .null (.int 0) (.int 0) := ⟨A1, D1 (Or.inr (Wd19 hw)) (ty := F2_) (by decide), D1 (Or.inl (Wd26 hw)) (ty := F1_) (by decide), D1 (Or.inl (Wd97 hw)) (ty := FieldType.int) (by decide), D1 (Or.inl (Wd99 hw)) (ty := FieldType.int) (by decide)⟩
  refine Go.mp st1 ?_
  show Go p e below (T1.setTop (mkF m 11 #[vi p1, vi p2, vi p3, vi p4, vi p5, .val (.int ((p1 &&& (2147483647 : Int32)) % (5 : Int32))), vu, vu, vu, vu] [(.ref b1)])) _
  refine g_dup X1 hx (hb hby at_11) rfl ?_
  refine g_I X1 hx hZ hown (lk31 hw) (rm_init_159 hw b1 h1 n0 Z1 O1 g_b1) e1 (hb hby at_12) hml.symm rfl (rest := [(.ref b1)]) rfl (W := 1) (Nat.le_of_eq rfl) (by decide) (fun v2 T2 L2 X2 q2 => ?_)
  obtain ⟨rfl, M2, Kc2, Rk2_0⟩ := q2
  have N2 := Fr.app N0 M2
  have KO_2 := Keep.trans KO_1 Kc2 (own_memc (Or.inr (Nat.le_trans hN g_b1)) own_memn)
  have Z2 : n0 ≤ T2.heap.size := Nat.le_trans Z1 Kc2.1
  refine g_astore X2 hx #[vi p1, vi p2, vi p3, vi p4, vi p5, .val (.int ((p1 &&& (2147483647 : Int32)) % (5 : Int32))), vr b1, vu, vu, vu] (hb hby at_15) rfl rfl ?_
  exact seg_17_E hw wc clc p1 p2 p3 p4 p5 ((p1 &&& (2147483647 : Int32)) % (5 : Int32)) b1 (0 : Int32) T2.heap n0 Z2 hN C1 C2 BX KO_2 Rk2_0 g_b1 (own_mod5n p1) hx hby hml hown hnm hret hlk hZ (Stand.more X2 (by decide) (by decide)) (rfl : T2.heap = T2.heap) N2
set_option maxRecDepth 65536 in
set_option maxHeartbeats 40000000 in
theorem comes_1 {Post : Tables → Env → Array Value → State → Outcome → State → Prop} (hpost : ∀ tb e args s v u, (limb_1_1.after args s (.returned v) u = true ∧ limb_1_2.after args s (.returned v) u = true ∧ True) → FrameEnd s (.returned v) u (Jvm.fieldLocs frame_1_writes args s ++ Jvm.arrayLocs frame_1_arrays args s ++ Jvm.staticLocs frame_1_statics s) 32 192 → Post tb e args s (.returned v) u) :
    ArmFor flags0 classFile x code maxLocals ret World_1 tables_1 room_1 Calls_1 rest_1 Pre_1 Post := by
  intro l hfl _ _ p e ha hc hk s m args below hf hA hF happ hP
  obtain ⟨hcalls, hrest, hpre⟩ := hP
  obtain ⟨-, -, -, hnamed, -, -, -, hat⟩ := (Spec.applies_iff hf).mp happ
  obtain ⟨hg, hn⟩ := and_e (Cond.before_iff.mp (show (Jvm.Cond.and given_1 narrow_1).before args s = true from hpre))
  obtain ⟨hcnt, hg⟩ := and_e hg
  obtain ⟨w0, w1, w2, w3, w4, rfl⟩ : ∃ w0 w1 w2 w3 w4 : Value, args = #[w0, w1, w2, w3, w4] := by
    have hs : args.size = 5 := by simpa [Cond.value, given_1] using hcnt
    obtain ⟨L⟩ := args
    match L, hs with
    | [w0, w1, w2, w3, w4], _ => exact ⟨w0, w1, w2, w3, w4, rfl⟩
  have hw := fun d (hd : d ∈ tables_1) => atoms_spec (ws := Jvm.Cond.code x code maxLocals ret :: tables_1) hat d (List.mem_cons_of_mem _ hd)
  obtain ⟨ha0, hg0⟩ := and_e hg
  obtain ⟨p1, ep1⟩ := is_v ha0
  obtain rfl : w0 = (.int p1) := Option.some.inj ep1
  obtain ⟨ha1, hg1⟩ := and_e hg0
  obtain ⟨p2, ep2⟩ := is_v ha1
  obtain rfl : w1 = (.int p2) := Option.some.inj ep2
  obtain ⟨ha2, hg2⟩ := and_e hg1
  obtain ⟨p3, ep3⟩ := is_v ha2
  obtain rfl : w2 = (.int p3) := Option.some.inj ep3
  obtain ⟨ha3, hg3⟩ := and_e hg2
  obtain ⟨p4, ep4⟩ := is_v ha3
  obtain rfl : w3 = (.int p4) := Option.some.inj ep4
  obtain ⟨p5, ep5⟩ := is_v hg3
  obtain rfl : w4 = (.int p5) := Option.some.inj ep5
  obtain ⟨hsets, hown0⟩ := atoms_of _ (rest_1_c_eq ▸ (show rest_1_c.before _ s = true from hrest))
  have e127 := eqv_i (Term.int_eval (127)) (Cond.before_iff.mp (hsets _ (List.mem_of_getElem? (i := 3) rfl)))
  have C1 : Sta s s.heap "java/lang/Integer$IntegerCache" "high" "I" (.int 127) := Sta.start e127 (Or.inl (hsets _ (List.mem_of_getElem? (i := 1) rfl)))
  obtain ⟨wc, clc, evc, Ac⟩ := own_arrOf (Cond.before_iff.mp (hsets _ (List.mem_of_getElem? (i := 4) rfl)))
  obtain ⟨lt_c, sz_c⟩ := own_arrLen Ac evc (Cond.before_iff.mp (hsets _ (List.mem_of_getElem? (i := 6) rfl)))
  have C2 : Sta s s.heap "java/lang/Integer$IntegerCache" "cache" "[Ljava/lang/Integer;" (.ref wc) := Sta.start evc (Or.inr ⟨(hw _ (List.mem_of_getElem? (i := 32) rfl)), hsets _ (List.mem_of_getElem? (i := 2) rfl)⟩)
  have BX : Bxs s wc clc "java/lang/Integer" "I" (256 : Int32) (fun j => .int (j - (128 : Int32))) := Bxs.start (fun idx => evc) Ac lt_c sz_c (by decide) (Cond.before_iff.mp (hsets _ (List.mem_of_getElem? (i := 7) rfl))) (fun X j nn q => eqv_i (own_ix nn) q)
  obtain ⟨n, o, h1, h2, h3, _, L, rfl, ⟨rfl, N⟩, hq⟩ := rm_law (l := l) (Z := s) hw p1 p2 p3 p4 p5 wc clc s.heap s.heap.size (Nat.le_refl _) (Nat.le_refl _) C1 C2 BX (Keep.refl _ _) p e ha hc hk s m _ below hf ((Spec.applies_iff_loose hf).mp happ).1 ⟨rfl, State.Warmed39.refl s, rfl⟩ trivial
  refine ⟨n, _, h1, h2, h3, hpost _ _ _ _ _ _ ⟨Cond.after_iff.mpr rfl, Cond.after_iff.mpr (eq_i res_at (Term.int_eval (1)) rfl), trivial⟩ ⟨hq.1, hq.2.1, (hq.2.2.sift fun y hy => Or.inr (N y hy)).mono (by decide) (by decide)⟩⟩
theorem main_1_1 : Claimed_1_1 := comes_1 fun _ _ _ _ _ _ h hF => ⟨h.1, hF⟩
theorem main_1_2 : Claimed_1_2 := comes_1 fun _ _ _ _ _ _ h hF => ⟨h.2.1, hF⟩
end Jvm.Pilot.@@N@@
namespace Jvm.Pilot.@@N@@
open Jvm Jvm.ClassFile Sem Op Lib Jvm.Free Jvm.Stand Jvm.Pilot.@@N@@.Jvm.D
/-! MADE BY PROGRAM (witnessworld.py) out of the Statement's table words and the real class files: 23 classes; the members and pool entries that the words name. The judged class is class 1, her method 1. -/
namespace start1
open Jvm.ClassFile
def u (s : String) : CpInfo := .utf8 (stringToUtf16 s)
/-- a pool by its gaps: so many unusable entries, then the entry; so many at the end -/
def gap : Nat → List CpInfo → List CpInfo
  | 0, r => r
  | n + 1, r => .unusable :: gap n r
def poolList (es : List (Nat × CpInfo)) (last : Nat) : List CpInfo := es.foldr (fun e r => gap e.1 (e.2 :: r)) (gap last [])
def pool (es : List (Nat × CpInfo)) (last : Nat) : Array CpInfo := ⟨poolList es last⟩
def fileOf (pool : Array CpInfo) (this : Nat) (attrs : Array Attribute := #[]) (ms : Array MethodInfo := #[]) (fl : Nat := 33) (sup : Nat := 0) (ifs : Array Nat := #[]) (fds : Array FieldInfo := #[]) : ClassFile where
  minorVersion := 0
  majorVersion := 65
  constantPool := pool
  accessFlags := fl
  thisClass := this
  superClass := sup
  interfaces := ifs
  fields := fds
  methods := ms
  attributes := attrs
def plain (name : String) (sup : Option ClassId) : Class where
  name := name
  kind := .ordinary
  loader := none
  accessFlags := 33
  super := sup
  interfaces := #[]
  cf := none
  fields := #[]
  methods := #[]
  instanceTypes := #[]
  staticTypes := #[]
  resolved := #[]
  callSites := []
  init := .initialized
  statics := none
  mirror := none

def pool0 : Array CpInfo := pool [(5, u "<init>"), (0, u "()V"), (1, .class_ 10), (1, u "java/lang/Object")] 113

def k0c0 : Code := { maxStack := 0, maxLocals := 1, code := object_method_1_code, exceptionTable := #[], attributes := #[] }
def k0m0 : Method := { name := "<init>", desc := "()V", sig := { parameters := [], returnType := none }, accessFlags := 1, code := some k0c0 }
/-- java/lang/Object -/
def k0 : Class := { plain "java/lang/Object" none with
  accessFlags := 33
  interfaces := #[]
  cf := some (fileOf pool0 8 #[] #[{ accessFlags := 1, nameIndex := 5, descriptorIndex := 6, attributes := #[] }] 33 0 #[] #[])
  fields := #[]
  methods := #[k0m0]
  instanceTypes := #[]
  staticTypes := #[]
  resolved := Array.replicate 124 none
  statics := none }

def pool1 : Array CpInfo := pool [(2, .class_ 4), (0, .nameAndType 5 6), (0, u "java/lang/Object"), (0, u "<init>"), (0, u "()V"), (0, .integer 2147483647), (0, .class_ 9), (0, u "com/example/rosewood/rosewood/RosewoodMap"), (0, .methodref 8 3), (0, .methodref 12 13), (0, .class_ 14), (0, .nameAndType 15 16), (0, u "java/lang/Integer"), (0, u "valueOf"), (0, u "(I)Ljava/lang/Integer;"), (0, .methodref 8 18), (0, .nameAndType 19 20), (0, u "put"), (0, u "(Ljava/lang/Object;Ljava/lang/Object;)Ljava/lang/Object;"), (0, .methodref 8 22), (0, .nameAndType 23 24), (0, u "first"), (0, u "()Lcom/example/rosewood/rosewood/RosewoodMap$Node;"), (0, .fieldref 26 27), (0, .class_ 28), (0, .nameAndType 29 30), (0, u "com/example/rosewood/rosewood/RosewoodMap$Node"), (0, u "key"), (0, u "Ljava/lang/Object;"), (0, .fieldref 26 32), (0, .nameAndType 33 30), (0, u "value"), (0, .methodref 12 35), (0, .nameAndType 36 37), (0, u "intValue"), (0, u "()I"), (0, .fieldref 26 39), (0, .nameAndType 40 41), (0, u "left"), (0, u "Lcom/example/rosewood/rosewood/RosewoodMap$Node;"), (0, .class_ 43), (0, u "com/example/rosewood/rosewood/RosewoodMapFirstPinLaw"), (2, u "law"), (0, u "(IIIII)Z")] 5

def k1m0 : Method := { name := "<init>", desc := "()V", sig := { parameters := [], returnType := none }, accessFlags := 1, code := none }
def k1c1 : Code := { maxStack := 3, maxLocals := 10, code := code, exceptionTable := #[], attributes := #[] }
def k1m1 : Method := { name := "law", desc := "(IIIII)Z", sig := { parameters := [.int, .int, .int, .int, .int], returnType := some .boolean }, accessFlags := 9, code := some k1c1 }
/-- com/example/rosewood/rosewood/RosewoodMapFirstPinLaw -/
def k1 : Class := { plain "com/example/rosewood/rosewood/RosewoodMapFirstPinLaw" (some 0) with
  accessFlags := 49
  interfaces := #[]
  cf := some (fileOf pool1 42 #[] #[{ accessFlags := 1, nameIndex := 5, descriptorIndex := 6, attributes := #[] }, { accessFlags := 9, nameIndex := 46, descriptorIndex := 47, attributes := #[] }] 49 2 #[] #[])
  fields := #[]
  methods := #[k1m0, k1m1]
  instanceTypes := #[]
  staticTypes := #[]
  resolved := Array.replicate 53 none
  statics := none }

def pool2 : Array CpInfo := pool [(2, .class_ 4), (1, u "java/util/Map"), (31, .class_ 37), (0, u "java/util/Map$Entry"), (55, .class_ 94), (0, u "java/lang/Object")] 168

/-- java/util/Map -/
def k2 : Class := { plain "java/util/Map" (some 0) with
  accessFlags := 1537
  interfaces := #[]
  cf := some (fileOf pool2 2 #[.nestMembers #[36]] #[] 1537 93 #[] #[])
  fields := #[]
  methods := #[]
  instanceTypes := #[]
  staticTypes := #[]
  resolved := Array.replicate 263 none
  statics := none }

def pool3 : Array CpInfo := pool [(1, .methodref 2 3), (0, .class_ 4), (0, .nameAndType 5 6), (0, u "java/lang/Object"), (0, u "<init>"), (0, u "()V"), (1, .class_ 10), (1, u "java/util/AbstractMap"), (42, .class_ 54), (0, u "java/util/Map"), (9, u "keySet"), (0, u "Ljava/util/Set;"), (0, .class_ 67), (0, u "java/util/AbstractMap$1"), (5, u "values"), (0, u "Ljava/util/Collection;"), (0, .class_ 76), (0, u "java/util/AbstractMap$2"), (104, .class_ 182), (0, u "java/util/AbstractMap$ViewCollection"), (0, .class_ 184), (0, u "java/util/AbstractMap$SimpleImmutableEntry"), (0, .class_ 186), (0, u "java/util/AbstractMap$SimpleEntry"), (0, .class_ 188), (0, u "java/util/AbstractMap$2$1"), (0, .class_ 190), (0, u "java/util/AbstractMap$1$1")] 5

def k3c0 : Code := { maxStack := 1, maxLocals := 1, code := jdk_71_method_1_code, exceptionTable := #[], attributes := #[] }
def k3m0 : Method := { name := "<init>", desc := "()V", sig := { parameters := [], returnType := none }, accessFlags := 4, code := some k3c0 }
/-- java/util/AbstractMap -/
def k3 : Class := { plain "java/util/AbstractMap" (some 0) with
  accessFlags := 1057
  interfaces := #[2]
  cf := some (fileOf pool3 8 #[.nestMembers #[181, 183, 185, 75, 187, 66, 189]] #[{ accessFlags := 4, nameIndex := 5, descriptorIndex := 6, attributes := #[] }] 1057 2 #[53] #[{ accessFlags := 128, nameIndex := 64, descriptorIndex := 65, attributes := #[] }, { accessFlags := 128, nameIndex := 73, descriptorIndex := 74, attributes := #[] }])
  fields := #[{ name := "keySet", type := (.object "java/util/Set"), accessFlags := 128, slot := 0, constantValue := 0 }, { name := "values", type := (.object "java/util/Collection"), accessFlags := 128, slot := 1, constantValue := 0 }]
  methods := #[k3m0]
  instanceTypes := #[(.object "java/util/Set"), (.object "java/util/Collection")]
  staticTypes := #[]
  resolved := Array.replicate 196 none
  statics := none }

def pool4 : Array CpInfo := pool [(2, .class_ 4), (1, u "java/util/SequencedMap"), (38, .class_ 44), (0, u "java/util/SequencedMap$1SeqKeySet"), (3, .class_ 49), (0, u "java/util/SequencedMap$1SeqValues"), (1, .class_ 52), (0, u "java/util/SequencedMap$1SeqEntrySet"), (1, .class_ 55), (0, u "java/lang/Object"), (0, .class_ 57), (0, u "java/util/Map")] 48

/-- java/util/SequencedMap -/
def k4 : Class := { plain "java/util/SequencedMap" (some 0) with
  accessFlags := 1537
  interfaces := #[2]
  cf := some (fileOf pool4 2 #[.nestMembers #[51, 48, 43]] #[] 1537 54 #[56] #[])
  fields := #[]
  methods := #[]
  instanceTypes := #[]
  staticTypes := #[]
  resolved := Array.replicate 106 none
  statics := none }

def pool5 : Array CpInfo := pool [(14, .class_ 16), (1, u "java/util/SortedMap"), (2, .class_ 20), (0, u "java/lang/Object"), (0, .class_ 22), (0, u "java/util/SequencedMap")] 50

/-- java/util/SortedMap -/
def k5 : Class := { plain "java/util/SortedMap" (some 0) with
  accessFlags := 1537
  interfaces := #[4]
  cf := some (fileOf pool5 14 #[] #[] 1537 19 #[21] #[])
  fields := #[]
  methods := #[]
  instanceTypes := #[]
  staticTypes := #[]
  resolved := Array.replicate 73 none
  statics := none }

def pool6 : Array CpInfo := pool [(2, .class_ 4), (1, u "java/util/NavigableMap"), (5, .class_ 11), (0, u "java/lang/Object"), (0, .class_ 13), (0, u "java/util/SortedMap")] 53

/-- java/util/NavigableMap -/
def k6 : Class := { plain "java/util/NavigableMap" (some 0) with
  accessFlags := 1537
  interfaces := #[5]
  cf := some (fileOf pool6 2 #[] #[] 1537 10 #[12] #[])
  fields := #[]
  methods := #[]
  instanceTypes := #[]
  staticTypes := #[]
  resolved := Array.replicate 67 none
  statics := none }

def pool7 : Array CpInfo := pool [(3, .methodref 4 5), (0, .class_ 6), (0, .nameAndType 7 8), (0, u "com/example/rosewood/rosewood/RosewoodMap"), (0, u "<init>"), (0, u "(Ljava/util/Comparator;)V"), (0, .methodref 10 11), (0, .class_ 12), (0, .nameAndType 7 13), (0, u "java/util/AbstractMap"), (0, u "()V"), (0, .fieldref 4 15), (0, .nameAndType 16 17), (0, u "comparator"), (0, u "Ljava/util/Comparator;"), (0, .fieldref 4 19), (0, .nameAndType 20 21), (0, u "size"), (0, u "I"), (0, .fieldref 4 23), (0, .nameAndType 24 25), (0, u "root"), (0, u "Lcom/example/rosewood/rosewood/RosewoodMap$Node;"), (5, .class_ 33), (1, u "com/example/rosewood/rosewood/RosewoodMap$Node"), (1, u "Ljava/lang/Object;"), (0, .methodref 4 37), (0, .nameAndType 38 39), (0, u "addIfAbsent"), (0, u "(Ljava/lang/Object;Ljava/lang/Object;)Lcom/example/rosewood/rosewood/RosewoodMap$Node;"), (0, .methodref 4 41), (0, .nameAndType 42 43), (0, u "replaceValue"), (0, u "(Lcom/example/rosewood/rosewood/RosewoodMap$Node;Ljava/lang/Object;)Ljava/lang/Object;"), (6, u "(Lcom/example/rosewood/rosewood/RosewoodMap$Node;)V"), (0, .fieldref 4 52), (0, .nameAndType 53 21), (0, u "modCount"), (9, u "(Ljava/lang/Object;)Ljava/lang/Object;"), (20, u "(Ljava/lang/Object;Ljava/lang/Object;)Ljava/lang/Object;"), (5, u "first"), (0, u "()Lcom/example/rosewood/rosewood/RosewoodMap$Node;"), (0, .fieldref 31 93), (0, .nameAndType 94 35), (0, u "key"), (3, u "(Lcom/example/rosewood/rosewood/RosewoodMap$Node;)Lcom/example/rosewood/rosewood/RosewoodMap$Node;"), (22, .methodref 4 122), (0, .nameAndType 123 124), (0, u "keyOf"), (0, u "(Lcom/example/rosewood/rosewood/RosewoodMap$Node;)Ljava/lang/Object;"), (17, u "ascending"), (21, .class_ 165), (0, u "java/util/NavigableMap"), (22, u "Lcom/example/rosewood/rosewood/RangeView;"), (10, .methodref 31 200), (0, .nameAndType 7 201), (0, u "(Ljava/lang/Object;Ljava/lang/Object;Lcom/example/rosewood/rosewood/RosewoodMap$Node;)V"), (0, .methodref 31 203), (0, .nameAndType 204 63), (0, u "setValue"), (6, .fieldref 31 212), (0, .nameAndType 213 25), (0, u "left"), (0, .fieldref 31 215), (0, .nameAndType 216 25), (0, u "right"), (0, .methodref 4 218), (0, .nameAndType 219 220), (0, u "compare"), (0, u "(Ljava/lang/Object;Ljava/lang/Object;)I"), (0, .methodref 4 222), (0, .nameAndType 223 224), (0, u "addToLeftCount"), (0, u "(Lcom/example/rosewood/rosewood/RosewoodMap$Node;I)V"), (0, .methodref 4 226), (0, .nameAndType 227 228), (0, u "countPlace"), (0, u "(Lcom/example/rosewood/rosewood/RosewoodMap$Node;II)V"), (0, .methodref 4 230), (0, .nameAndType 231 232), (0, u "leftCount"), (0, u "(Lcom/example/rosewood/rosewood/RosewoodMap$Node;)I"), (0, .methodref 4 234), (0, .nameAndType 235 236), (0, u "newNode"), (0, u "(Ljava/lang/Object;Ljava/lang/Object;Lcom/example/rosewood/rosewood/RosewoodMap$Node;)Lcom/example/rosewood/rosewood/RosewoodMap$Node;"), (0, .methodref 4 238), (0, .nameAndType 239 240), (0, u "setRed"), (0, u "(Lcom/example/rosewood/rosewood/RosewoodMap$Node;Z)V"), (0, .methodref 4 242), (0, .nameAndType 243 50), (0, u "refreshToRoot"), (0, .methodref 4 245), (0, .nameAndType 246 50), (0, u "balanceAfterInsert"), (3, .class_ 251), (0, u "com/example/rosewood/rosewood/RosewoodMap$NodeIterator"), (3, .class_ 256), (0, u "com/example/rosewood/rosewood/RosewoodMap$NodeSpliterator"), (6, .class_ 264), (0, u "java/lang/Comparable"), (0, .interfaceMethodref 263 266), (0, .nameAndType 267 268), (0, u "compareTo"), (0, u "(Ljava/lang/Object;)I"), (3, .methodref 4 273), (0, .nameAndType 274 98), (0, u "leftmost"), (7, .fieldref 31 283), (0, .nameAndType 284 25), (0, u "parent"), (0, .fieldref 31 286), (0, .nameAndType 287 21), (0, u "redAndLeftCount"), (0, .integer 2147483648), (0, .integer 2147483647), (0, .methodref 4 291), (0, .nameAndType 292 224), (0, u "countAbove"), (0, .methodref 4 294), (0, .nameAndType 295 296), (0, u "replaceInParent"), (0, u "(Lcom/example/rosewood/rosewood/RosewoodMap$Node;Lcom/example/rosewood/rosewood/RosewoodMap$Node;)V"), (0, .methodref 4 298), (0, .nameAndType 299 50), (0, u "refresh"), (0, .methodref 4 301), (0, .nameAndType 302 303), (0, u "isRed"), (0, u "(Lcom/example/rosewood/rosewood/RosewoodMap$Node;)Z"), (0, .methodref 4 305), (0, .nameAndType 306 50), (0, u "rotateLeft"), (0, .methodref 4 308), (0, .nameAndType 309 50), (0, u "rotateRight"), (11, u "NO_FENCE"), (0, u "RED"), (17, u "put")] 112

def k7c0 : Code := { maxStack := 2, maxLocals := 1, code := prog_7_method_1_code, exceptionTable := #[], attributes := #[] }
def k7m0 : Method := { name := "<init>", desc := "()V", sig := { parameters := [], returnType := none }, accessFlags := 1, code := some k7c0 }
def k7c1 : Code := { maxStack := 2, maxLocals := 2, code := prog_7_method_2_code, exceptionTable := #[], attributes := #[] }
def k7m1 : Method := { name := "<init>", desc := "(Ljava/util/Comparator;)V", sig := { parameters := [(.object "java/util/Comparator")], returnType := none }, accessFlags := 1, code := some k7c1 }
def k7c2 : Code := { maxStack := 3, maxLocals := 4, code := prog_7_method_8_code, exceptionTable := #[], attributes := #[] }
def k7m2 : Method := { name := "put", desc := "(Ljava/lang/Object;Ljava/lang/Object;)Ljava/lang/Object;", sig := { parameters := [(.object "java/lang/Object"), (.object "java/lang/Object")], returnType := some (.object "java/lang/Object") }, accessFlags := 1, code := some k7c2 }
def k7c3 : Code := { maxStack := 5, maxLocals := 4, code := prog_7_method_51_code, exceptionTable := #[], attributes := #[] }
def k7m3 : Method := { name := "newNode", desc := "(Ljava/lang/Object;Ljava/lang/Object;Lcom/example/rosewood/rosewood/RosewoodMap$Node;)Lcom/example/rosewood/rosewood/RosewoodMap$Node;", sig := { parameters := [(.object "java/lang/Object"), (.object "java/lang/Object"), (.object "com/example/rosewood/rosewood/RosewoodMap$Node")], returnType := some (.object "com/example/rosewood/rosewood/RosewoodMap$Node") }, accessFlags := 0, code := some k7c3 }
def k7c4 : Code := { maxStack := 2, maxLocals := 3, code := prog_7_method_52_code, exceptionTable := #[], attributes := #[] }
def k7m4 : Method := { name := "replaceValue", desc := "(Lcom/example/rosewood/rosewood/RosewoodMap$Node;Ljava/lang/Object;)Ljava/lang/Object;", sig := { parameters := [(.object "com/example/rosewood/rosewood/RosewoodMap$Node"), (.object "java/lang/Object")], returnType := some (.object "java/lang/Object") }, accessFlags := 0, code := some k7c4 }
def k7c5 : Code := { maxStack := 0, maxLocals := 2, code := prog_7_method_54_code, exceptionTable := #[], attributes := #[] }
def k7m5 : Method := { name := "refresh", desc := "(Lcom/example/rosewood/rosewood/RosewoodMap$Node;)V", sig := { parameters := [(.object "com/example/rosewood/rosewood/RosewoodMap$Node")], returnType := none }, accessFlags := 0, code := some k7c5 }
def k7c6 : Code := { maxStack := 0, maxLocals := 2, code := prog_7_method_55_code, exceptionTable := #[], attributes := #[] }
def k7m6 : Method := { name := "refreshToRoot", desc := "(Lcom/example/rosewood/rosewood/RosewoodMap$Node;)V", sig := { parameters := [(.object "com/example/rosewood/rosewood/RosewoodMap$Node")], returnType := none }, accessFlags := 0, code := some k7c6 }
def k7c7 : Code := { maxStack := 5, maxLocals := 15, code := prog_7_method_65_code, exceptionTable := #[{ startPc := 71, endPc := 122, handlerPc := 210, catchType := 0 }, { startPc := 137, endPc := 195, handlerPc := 210, catchType := 0 }, { startPc := 210, endPc := 212, handlerPc := 210, catchType := 0 }], attributes := #[] }
def k7m7 : Method := { name := "addIfAbsent", desc := "(Ljava/lang/Object;Ljava/lang/Object;)Lcom/example/rosewood/rosewood/RosewoodMap$Node;", sig := { parameters := [(.object "java/lang/Object"), (.object "java/lang/Object")], returnType := some (.object "com/example/rosewood/rosewood/RosewoodMap$Node") }, accessFlags := 2, code := some k7c7 }
def k7c8 : Code := { maxStack := 3, maxLocals := 3, code := prog_7_method_72_code, exceptionTable := #[], attributes := #[] }
def k7m8 : Method := { name := "compare", desc := "(Ljava/lang/Object;Ljava/lang/Object;)I", sig := { parameters := [(.object "java/lang/Object"), (.object "java/lang/Object")], returnType := some .int }, accessFlags := 0, code := some k7c8 }
def k7c9 : Code := { maxStack := 1, maxLocals := 1, code := prog_7_method_73_code, exceptionTable := #[], attributes := #[] }
def k7m9 : Method := { name := "first", desc := "()Lcom/example/rosewood/rosewood/RosewoodMap$Node;", sig := { parameters := [], returnType := some (.object "com/example/rosewood/rosewood/RosewoodMap$Node") }, accessFlags := 0, code := some k7c9 }
def k7c10 : Code := { maxStack := 1, maxLocals := 1, code := prog_7_method_76_code, exceptionTable := #[], attributes := #[] }
def k7m10 : Method := { name := "keyOf", desc := "(Lcom/example/rosewood/rosewood/RosewoodMap$Node;)Ljava/lang/Object;", sig := { parameters := [(.object "com/example/rosewood/rosewood/RosewoodMap$Node")], returnType := some (.object "java/lang/Object") }, accessFlags := 8, code := some k7c10 }
def k7c11 : Code := { maxStack := 1, maxLocals := 2, code := prog_7_method_77_code, exceptionTable := #[], attributes := #[] }
def k7m11 : Method := { name := "leftmost", desc := "(Lcom/example/rosewood/rosewood/RosewoodMap$Node;)Lcom/example/rosewood/rosewood/RosewoodMap$Node;", sig := { parameters := [(.object "com/example/rosewood/rosewood/RosewoodMap$Node")], returnType := some (.object "com/example/rosewood/rosewood/RosewoodMap$Node") }, accessFlags := 10, code := some k7c11 }
def k7c12 : Code := { maxStack := 1, maxLocals := 1, code := prog_7_method_81_code, exceptionTable := #[], attributes := #[] }
def k7m12 : Method := { name := "isRed", desc := "(Lcom/example/rosewood/rosewood/RosewoodMap$Node;)Z", sig := { parameters := [(.object "com/example/rosewood/rosewood/RosewoodMap$Node")], returnType := some .boolean }, accessFlags := 10, code := some k7c12 }
def k7c13 : Code := { maxStack := 3, maxLocals := 2, code := prog_7_method_82_code, exceptionTable := #[], attributes := #[] }
def k7m13 : Method := { name := "setRed", desc := "(Lcom/example/rosewood/rosewood/RosewoodMap$Node;Z)V", sig := { parameters := [(.object "com/example/rosewood/rosewood/RosewoodMap$Node"), .boolean], returnType := none }, accessFlags := 10, code := some k7c13 }
def k7c14 : Code := { maxStack := 2, maxLocals := 1, code := prog_7_method_83_code, exceptionTable := #[], attributes := #[] }
def k7m14 : Method := { name := "leftCount", desc := "(Lcom/example/rosewood/rosewood/RosewoodMap$Node;)I", sig := { parameters := [(.object "com/example/rosewood/rosewood/RosewoodMap$Node")], returnType := some .int }, accessFlags := 10, code := some k7c14 }
def k7c15 : Code := { maxStack := 3, maxLocals := 2, code := prog_7_method_84_code, exceptionTable := #[], attributes := #[] }
def k7m15 : Method := { name := "addToLeftCount", desc := "(Lcom/example/rosewood/rosewood/RosewoodMap$Node;I)V", sig := { parameters := [(.object "com/example/rosewood/rosewood/RosewoodMap$Node"), .int], returnType := none }, accessFlags := 10, code := some k7c15 }
def k7c16 : Code := { maxStack := 2, maxLocals := 4, code := prog_7_method_85_code, exceptionTable := #[], attributes := #[] }
def k7m16 : Method := { name := "countAbove", desc := "(Lcom/example/rosewood/rosewood/RosewoodMap$Node;I)V", sig := { parameters := [(.object "com/example/rosewood/rosewood/RosewoodMap$Node"), .int], returnType := none }, accessFlags := 10, code := some k7c16 }
def k7c17 : Code := { maxStack := 2, maxLocals := 3, code := prog_7_method_86_code, exceptionTable := #[], attributes := #[] }
def k7m17 : Method := { name := "countPlace", desc := "(Lcom/example/rosewood/rosewood/RosewoodMap$Node;II)V", sig := { parameters := [(.object "com/example/rosewood/rosewood/RosewoodMap$Node"), .int, .int], returnType := none }, accessFlags := 10, code := some k7c17 }
def k7c18 : Code := { maxStack := 2, maxLocals := 4, code := prog_7_method_87_code, exceptionTable := #[], attributes := #[] }
def k7m18 : Method := { name := "replaceInParent", desc := "(Lcom/example/rosewood/rosewood/RosewoodMap$Node;Lcom/example/rosewood/rosewood/RosewoodMap$Node;)V", sig := { parameters := [(.object "com/example/rosewood/rosewood/RosewoodMap$Node"), (.object "com/example/rosewood/rosewood/RosewoodMap$Node")], returnType := none }, accessFlags := 2, code := some k7c18 }
def k7c19 : Code := { maxStack := 3, maxLocals := 3, code := prog_7_method_88_code, exceptionTable := #[], attributes := #[] }
def k7m19 : Method := { name := "rotateLeft", desc := "(Lcom/example/rosewood/rosewood/RosewoodMap$Node;)V", sig := { parameters := [(.object "com/example/rosewood/rosewood/RosewoodMap$Node")], returnType := none }, accessFlags := 2, code := some k7c19 }
def k7c20 : Code := { maxStack := 3, maxLocals := 3, code := prog_7_method_89_code, exceptionTable := #[], attributes := #[] }
def k7m20 : Method := { name := "rotateRight", desc := "(Lcom/example/rosewood/rosewood/RosewoodMap$Node;)V", sig := { parameters := [(.object "com/example/rosewood/rosewood/RosewoodMap$Node")], returnType := none }, accessFlags := 2, code := some k7c20 }
def k7c21 : Code := { maxStack := 2, maxLocals := 6, code := prog_7_method_90_code, exceptionTable := #[], attributes := #[] }
def k7m21 : Method := { name := "balanceAfterInsert", desc := "(Lcom/example/rosewood/rosewood/RosewoodMap$Node;)V", sig := { parameters := [(.object "com/example/rosewood/rosewood/RosewoodMap$Node")], returnType := none }, accessFlags := 2, code := some k7c21 }
/-- com/example/rosewood/rosewood/RosewoodMap -/
def k7 : Class := { plain "com/example/rosewood/rosewood/RosewoodMap" (some 3) with
  accessFlags := 33
  interfaces := #[6]
  cf := some (fileOf pool7 4 #[.nestMembers #[255, 250, 31]] #[{ accessFlags := 1, nameIndex := 7, descriptorIndex := 13, attributes := #[] }, { accessFlags := 1, nameIndex := 7, descriptorIndex := 8, attributes := #[] }, { accessFlags := 1, nameIndex := 340, descriptorIndex := 84, attributes := #[] }, { accessFlags := 0, nameIndex := 235, descriptorIndex := 236, attributes := #[] }, { accessFlags := 0, nameIndex := 42, descriptorIndex := 43, attributes := #[] }, { accessFlags := 0, nameIndex := 299, descriptorIndex := 50, attributes := #[] }, { accessFlags := 0, nameIndex := 243, descriptorIndex := 50, attributes := #[] }, { accessFlags := 2, nameIndex := 38, descriptorIndex := 39, attributes := #[] }, { accessFlags := 0, nameIndex := 219, descriptorIndex := 220, attributes := #[] }, { accessFlags := 0, nameIndex := 90, descriptorIndex := 91, attributes := #[] }, { accessFlags := 8, nameIndex := 123, descriptorIndex := 124, attributes := #[] }, { accessFlags := 10, nameIndex := 274, descriptorIndex := 98, attributes := #[] }, { accessFlags := 10, nameIndex := 302, descriptorIndex := 303, attributes := #[] }, { accessFlags := 10, nameIndex := 239, descriptorIndex := 240, attributes := #[] }, { accessFlags := 10, nameIndex := 231, descriptorIndex := 232, attributes := #[] }, { accessFlags := 10, nameIndex := 223, descriptorIndex := 224, attributes := #[] }, { accessFlags := 10, nameIndex := 292, descriptorIndex := 224, attributes := #[] }, { accessFlags := 10, nameIndex := 227, descriptorIndex := 228, attributes := #[] }, { accessFlags := 2, nameIndex := 295, descriptorIndex := 296, attributes := #[] }, { accessFlags := 2, nameIndex := 306, descriptorIndex := 50, attributes := #[] }, { accessFlags := 2, nameIndex := 309, descriptorIndex := 50, attributes := #[] }, { accessFlags := 2, nameIndex := 246, descriptorIndex := 50, attributes := #[] }] 33 10 #[164] #[{ accessFlags := 26, nameIndex := 321, descriptorIndex := 35, attributes := #[] }, { accessFlags := 26, nameIndex := 322, descriptorIndex := 21, attributes := #[] }, { accessFlags := 18, nameIndex := 16, descriptorIndex := 17, attributes := #[] }, { accessFlags := 2, nameIndex := 24, descriptorIndex := 25, attributes := #[] }, { accessFlags := 2, nameIndex := 20, descriptorIndex := 21, attributes := #[] }, { accessFlags := 2, nameIndex := 53, descriptorIndex := 21, attributes := #[] }, { accessFlags := 2, nameIndex := 142, descriptorIndex := 188, attributes := #[] }])
  fields := #[{ name := "NO_FENCE", type := (.object "java/lang/Object"), accessFlags := 26, slot := 0, constantValue := 0 }, { name := "RED", type := .int, accessFlags := 26, slot := 1, constantValue := 0 }, { name := "comparator", type := (.object "java/util/Comparator"), accessFlags := 18, slot := 2, constantValue := 0 }, { name := "root", type := (.object "com/example/rosewood/rosewood/RosewoodMap$Node"), accessFlags := 2, slot := 3, constantValue := 0 }, { name := "size", type := .int, accessFlags := 2, slot := 4, constantValue := 0 }, { name := "modCount", type := .int, accessFlags := 2, slot := 5, constantValue := 0 }, { name := "ascending", type := (.object "com/example/rosewood/rosewood/RangeView"), accessFlags := 2, slot := 6, constantValue := 0 }]
  methods := #[k7m0, k7m1, k7m2, k7m3, k7m4, k7m5, k7m6, k7m7, k7m8, k7m9, k7m10, k7m11, k7m12, k7m13, k7m14, k7m15, k7m16, k7m17, k7m18, k7m19, k7m20, k7m21]
  instanceTypes := #[(.object "java/util/Set"), (.object "java/util/Collection"), (.object "java/util/Comparator"), (.object "com/example/rosewood/rosewood/RosewoodMap$Node"), .int, .int, (.object "com/example/rosewood/rosewood/RangeView")]
  staticTypes := #[(.object "java/lang/Object"), .int]
  resolved := Array.replicate 453 none
  statics := none }

def pool8 : Array CpInfo := pool [(1, .class_ 2), (0, u "java/io/Serializable"), (0, .class_ 4), (0, u "java/lang/Object")] 2

/-- java/io/Serializable -/
def k8 : Class := { plain "java/io/Serializable" (some 0) with
  accessFlags := 1537
  interfaces := #[]
  cf := some (fileOf pool8 1 #[] #[] 1537 3 #[] #[])
  fields := #[]
  methods := #[]
  instanceTypes := #[]
  staticTypes := #[]
  resolved := Array.replicate 7 none
  statics := none }

def pool9 : Array CpInfo := pool [(1, .methodref 2 3), (0, .class_ 4), (0, .nameAndType 5 6), (0, u "java/lang/Object"), (0, u "<init>"), (0, u "()V"), (1, .class_ 10), (1, u "java/lang/Number"), (2, .class_ 14), (0, u "java/io/Serializable"), (0, u "serialVersionUID"), (0, u "J")] 20

def k9c0 : Code := { maxStack := 1, maxLocals := 1, code := jdk_18_method_1_code, exceptionTable := #[], attributes := #[] }
def k9m0 : Method := { name := "<init>", desc := "()V", sig := { parameters := [], returnType := none }, accessFlags := 1, code := some k9c0 }
/-- java/lang/Number -/
def k9 : Class := { plain "java/lang/Number" (some 0) with
  accessFlags := 1057
  interfaces := #[8]
  cf := some (fileOf pool9 8 #[] #[{ accessFlags := 1, nameIndex := 5, descriptorIndex := 6, attributes := #[] }] 1057 2 #[13] #[{ accessFlags := 26, nameIndex := 15, descriptorIndex := 16, attributes := #[] }])
  fields := #[{ name := "serialVersionUID", type := .long, accessFlags := 26, slot := 0, constantValue := 0 }]
  methods := #[k9m0]
  instanceTypes := #[]
  staticTypes := #[.long]
  resolved := Array.replicate 37 none
  statics := none }

def pool10 : Array CpInfo := pool [(1, .class_ 2), (0, u "java/lang/Comparable"), (0, .class_ 4), (0, u "java/lang/Object"), (0, u "compareTo"), (0, u "(Ljava/lang/Object;)I")] 5

def k10m0 : Method := { name := "compareTo", desc := "(Ljava/lang/Object;)I", sig := { parameters := [(.object "java/lang/Object")], returnType := some .int }, accessFlags := 1025, code := none }
/-- java/lang/Comparable -/
def k10 : Class := { plain "java/lang/Comparable" (some 0) with
  accessFlags := 1537
  interfaces := #[]
  cf := some (fileOf pool10 1 #[] #[{ accessFlags := 1025, nameIndex := 5, descriptorIndex := 6, attributes := #[] }] 1537 3 #[] #[])
  fields := #[]
  methods := #[k10m0]
  instanceTypes := #[]
  staticTypes := #[]
  resolved := Array.replicate 12 none
  statics := none }

def pool11 : Array CpInfo := pool [(1, .class_ 2), (0, u "java/lang/constant/Constable"), (0, .class_ 4), (0, u "java/lang/Object")] 6

/-- java/lang/constant/Constable -/
def k11 : Class := { plain "java/lang/constant/Constable" (some 0) with
  accessFlags := 1537
  interfaces := #[]
  cf := some (fileOf pool11 1 #[] #[] 1537 3 #[] #[])
  fields := #[]
  methods := #[]
  instanceTypes := #[]
  staticTypes := #[]
  resolved := Array.replicate 11 none
  statics := none }

def pool12 : Array CpInfo := pool [(1, .class_ 2), (0, u "java/lang/constant/ConstantDesc"), (0, .class_ 4), (0, u "java/lang/Object")] 32

/-- java/lang/constant/ConstantDesc -/
def k12 : Class := { plain "java/lang/constant/ConstantDesc" (some 0) with
  accessFlags := 1537
  interfaces := #[]
  cf := some (fileOf pool12 1 #[] #[] 1537 3 #[] #[])
  fields := #[]
  methods := #[]
  instanceTypes := #[]
  staticTypes := #[]
  resolved := Array.replicate 37 none
  statics := none }

def pool13 : Array CpInfo := pool [(1, .class_ 2), (0, u "java/lang/Integer"), (16, u "digits"), (0, u "[C"), (39, u "(II)I"), (6, u "<init>"), (17, u "DigitOnes"), (0, u "[B"), (2, u "DigitTens"), (10, .nameAndType 67 101), (0, u "()V"), (19, u "()I"), (65, u "valueOf"), (0, u "(I)Ljava/lang/Integer;"), (0, .class_ 190), (0, u "java/lang/Integer$IntegerCache"), (0, .fieldref 189 192), (0, .nameAndType 193 194), (0, u "high"), (0, u "I"), (0, .fieldref 189 196), (0, .nameAndType 197 198), (0, u "cache"), (0, u "[Ljava/lang/Integer;"), (0, .methodref 1 200), (0, .nameAndType 67 201), (0, u "(I)V"), (0, .methodref 203 100), (0, .class_ 204), (0, u "java/lang/Number"), (0, .fieldref 1 206), (0, .nameAndType 207 194), (0, u "value"), (5, u "intValue"), (45, .methodref 1 260), (0, .nameAndType 261 60), (0, u "compare"), (22, .methodref 1 285), (0, .nameAndType 286 287), (0, u "compareTo"), (0, u "(Ljava/lang/Integer;)I"), (14, u "TYPE"), (0, u "Ljava/lang/Class;"), (0, .class_ 305), (0, u "java/lang/Comparable"), (0, .class_ 307), (0, u "java/lang/constant/Constable"), (0, .class_ 309), (0, u "java/lang/constant/ConstantDesc"), (0, u "MIN_VALUE"), (1, u "MAX_VALUE"), (3, u "SIZE"), (1, u "BYTES"), (1, u "serialVersionUID"), (0, u "J"), (113, u "(Ljava/lang/Object;)I")] 17

def k13c0 : Code := { maxStack := 3, maxLocals := 1, code := jdk_33_method_22_code, exceptionTable := #[], attributes := #[] }
def k13m0 : Method := { name := "valueOf", desc := "(I)Ljava/lang/Integer;", sig := { parameters := [.int], returnType := some (.object "java/lang/Integer") }, accessFlags := 9, code := some k13c0 }
def k13c1 : Code := { maxStack := 2, maxLocals := 2, code := jdk_33_method_23_code, exceptionTable := #[], attributes := #[] }
def k13m1 : Method := { name := "<init>", desc := "(I)V", sig := { parameters := [.int], returnType := none }, accessFlags := 1, code := some k13c1 }
def k13c2 : Code := { maxStack := 1, maxLocals := 1, code := jdk_33_method_27_code, exceptionTable := #[], attributes := #[] }
def k13m2 : Method := { name := "intValue", desc := "()I", sig := { parameters := [], returnType := some .int }, accessFlags := 1, code := some k13c2 }
def k13c3 : Code := { maxStack := 2, maxLocals := 2, code := jdk_33_method_39_code, exceptionTable := #[], attributes := #[] }
def k13m3 : Method := { name := "compareTo", desc := "(Ljava/lang/Integer;)I", sig := { parameters := [(.object "java/lang/Integer")], returnType := some .int }, accessFlags := 1, code := some k13c3 }
def k13c4 : Code := { maxStack := 2, maxLocals := 2, code := jdk_33_method_40_code, exceptionTable := #[], attributes := #[] }
def k13m4 : Method := { name := "compare", desc := "(II)I", sig := { parameters := [.int, .int], returnType := some .int }, accessFlags := 9, code := some k13c4 }
def k13c5 : Code := { maxStack := 2, maxLocals := 2, code := jdk_33_method_63_code, exceptionTable := #[], attributes := #[] }
def k13m5 : Method := { name := "compareTo", desc := "(Ljava/lang/Object;)I", sig := { parameters := [(.object "java/lang/Object")], returnType := some .int }, accessFlags := 4161, code := some k13c5 }
/-- java/lang/Integer -/
def k13 : Class := { plain "java/lang/Integer" (some 9) with
  accessFlags := 49
  interfaces := #[10, 11, 12]
  cf := some (fileOf pool13 1 #[.nestMembers #[189]] #[{ accessFlags := 9, nameIndex := 187, descriptorIndex := 188, attributes := #[] }, { accessFlags := 1, nameIndex := 67, descriptorIndex := 201, attributes := #[] }, { accessFlags := 1, nameIndex := 213, descriptorIndex := 121, attributes := #[] }, { accessFlags := 1, nameIndex := 286, descriptorIndex := 287, attributes := #[] }, { accessFlags := 9, nameIndex := 261, descriptorIndex := 60, attributes := #[] }, { accessFlags := 4161, nameIndex := 286, descriptorIndex := 435, attributes := #[] }] 49 203 #[304, 306, 308] #[{ accessFlags := 25, nameIndex := 310, descriptorIndex := 194, attributes := #[] }, { accessFlags := 25, nameIndex := 312, descriptorIndex := 194, attributes := #[] }, { accessFlags := 25, nameIndex := 302, descriptorIndex := 303, attributes := #[] }, { accessFlags := 24, nameIndex := 19, descriptorIndex := 20, attributes := #[] }, { accessFlags := 24, nameIndex := 89, descriptorIndex := 86, attributes := #[] }, { accessFlags := 24, nameIndex := 85, descriptorIndex := 86, attributes := #[] }, { accessFlags := 18, nameIndex := 207, descriptorIndex := 194, attributes := #[] }, { accessFlags := 25, nameIndex := 316, descriptorIndex := 194, attributes := #[] }, { accessFlags := 25, nameIndex := 318, descriptorIndex := 194, attributes := #[] }, { accessFlags := 26, nameIndex := 320, descriptorIndex := 321, attributes := #[] }])
  fields := #[{ name := "MIN_VALUE", type := .int, accessFlags := 25, slot := 0, constantValue := 0 }, { name := "MAX_VALUE", type := .int, accessFlags := 25, slot := 1, constantValue := 0 }, { name := "TYPE", type := (.object "java/lang/Class"), accessFlags := 25, slot := 2, constantValue := 0 }, { name := "digits", type := (.array .char), accessFlags := 24, slot := 3, constantValue := 0 }, { name := "DigitTens", type := (.array .byte), accessFlags := 24, slot := 4, constantValue := 0 }, { name := "DigitOnes", type := (.array .byte), accessFlags := 24, slot := 5, constantValue := 0 }, { name := "value", type := .int, accessFlags := 18, slot := 0, constantValue := 0 }, { name := "SIZE", type := .int, accessFlags := 25, slot := 6, constantValue := 0 }, { name := "BYTES", type := .int, accessFlags := 25, slot := 7, constantValue := 0 }, { name := "serialVersionUID", type := .long, accessFlags := 26, slot := 8, constantValue := 0 }]
  methods := #[k13m0, k13m1, k13m2, k13m3, k13m4, k13m5]
  instanceTypes := #[.int]
  staticTypes := #[.int, .int, (.object "java/lang/Class"), (.array .char), (.array .byte), (.array .byte), .int, .int, .long]
  resolved := Array.replicate 453 none
  statics := none }

def pool14 : Array CpInfo := pool [(2, .class_ 4), (1, u "java/lang/Object"), (0, u "<init>"), (0, u "()V"), (0, .class_ 8), (0, u "java/lang/Integer"), (7, .class_ 18), (1, u "java/lang/Integer$IntegerCache"), (0, u "$assertionsDisabled"), (0, u "Z"), (26, u "high"), (0, u "I"), (8, u "archivedCache"), (0, u "[Ljava/lang/Integer;"), (12, u "cache"), (0, u "low")] 27

def k14m0 : Method := { name := "<init>", desc := "()V", sig := { parameters := [], returnType := none }, accessFlags := 2, code := none }
/-- java/lang/Integer$IntegerCache -/
def k14 : Class := { plain "java/lang/Integer$IntegerCache" (some 0) with
  accessFlags := 48
  interfaces := #[]
  cf := some (fileOf pool14 16 #[.nestHost 7] #[{ accessFlags := 2, nameIndex := 5, descriptorIndex := 6, attributes := #[] }] 48 2 #[] #[{ accessFlags := 24, nameIndex := 72, descriptorIndex := 48, attributes := #[] }, { accessFlags := 24, nameIndex := 47, descriptorIndex := 48, attributes := #[] }, { accessFlags := 24, nameIndex := 71, descriptorIndex := 58, attributes := #[] }, { accessFlags := 8, nameIndex := 57, descriptorIndex := 58, attributes := #[] }, { accessFlags := 4120, nameIndex := 19, descriptorIndex := 20, attributes := #[] }])
  fields := #[{ name := "low", type := .int, accessFlags := 24, slot := 0, constantValue := 0 }, { name := "high", type := .int, accessFlags := 24, slot := 1, constantValue := 0 }, { name := "cache", type := (.array (.object "java/lang/Integer")), accessFlags := 24, slot := 2, constantValue := 0 }, { name := "archivedCache", type := (.array (.object "java/lang/Integer")), accessFlags := 8, slot := 3, constantValue := 0 }, { name := "$assertionsDisabled", type := .boolean, accessFlags := 4120, slot := 4, constantValue := 0 }]
  methods := #[k14m0]
  instanceTypes := #[]
  staticTypes := #[.int, .int, (.array (.object "java/lang/Integer")), (.array (.object "java/lang/Integer")), .boolean]
  resolved := Array.replicate 100 none
  statics := some 0 }

def pool15 : Array CpInfo := pool [(23, .class_ 25), (1, u "java/util/Map$Entry"), (6, .class_ 34), (1, u "java/util/Map"), (34, .class_ 70), (0, u "java/lang/Object")] 107

/-- java/util/Map$Entry -/
def k15 : Class := { plain "java/util/Map$Entry" (some 0) with
  accessFlags := 1537
  interfaces := #[]
  cf := some (fileOf pool15 23 #[.nestHost 32] #[] 1537 69 #[] #[])
  fields := #[]
  methods := #[]
  instanceTypes := #[]
  staticTypes := #[]
  resolved := Array.replicate 178 none
  statics := none }

def pool16 : Array CpInfo := pool [(1, .class_ 2), (0, u "com/example/rosewood/rosewood/RosewoodMap"), (0, .methodref 4 5), (0, .class_ 6), (0, .nameAndType 7 8), (0, u "java/lang/Object"), (0, u "<init>"), (0, u "()V"), (0, .integer 2147483648), (0, .fieldref 11 12), (0, .class_ 13), (0, .nameAndType 14 15), (0, u "com/example/rosewood/rosewood/RosewoodMap$Node"), (0, u "redAndLeftCount"), (0, u "I"), (0, .fieldref 11 17), (0, .nameAndType 18 19), (0, u "key"), (0, u "Ljava/lang/Object;"), (0, .fieldref 11 21), (0, .nameAndType 22 19), (0, u "value"), (0, .fieldref 11 24), (0, .nameAndType 25 26), (0, u "parent"), (0, u "Lcom/example/rosewood/rosewood/RosewoodMap$Node;"), (0, .class_ 28), (0, u "java/util/Map$Entry"), (30, u "left"), (1, u "right"), (0, u "(Ljava/lang/Object;Ljava/lang/Object;Lcom/example/rosewood/rosewood/RosewoodMap$Node;)V"), (5, u "setValue"), (0, u "(Ljava/lang/Object;)Ljava/lang/Object;")] 29

def k16c0 : Code := { maxStack := 2, maxLocals := 4, code := prog_8_method_1_code, exceptionTable := #[], attributes := #[] }
def k16m0 : Method := { name := "<init>", desc := "(Ljava/lang/Object;Ljava/lang/Object;Lcom/example/rosewood/rosewood/RosewoodMap$Node;)V", sig := { parameters := [(.object "java/lang/Object"), (.object "java/lang/Object"), (.object "com/example/rosewood/rosewood/RosewoodMap$Node")], returnType := none }, accessFlags := 0, code := some k16c0 }
def k16c1 : Code := { maxStack := 2, maxLocals := 3, code := prog_8_method_4_code, exceptionTable := #[], attributes := #[] }
def k16m1 : Method := { name := "setValue", desc := "(Ljava/lang/Object;)Ljava/lang/Object;", sig := { parameters := [(.object "java/lang/Object")], returnType := some (.object "java/lang/Object") }, accessFlags := 1, code := some k16c1 }
/-- com/example/rosewood/rosewood/RosewoodMap$Node -/
def k16 : Class := { plain "com/example/rosewood/rosewood/RosewoodMap$Node" (some 0) with
  accessFlags := 32
  interfaces := #[15]
  cf := some (fileOf pool16 11 #[.nestHost 1] #[{ accessFlags := 0, nameIndex := 7, descriptorIndex := 62, attributes := #[] }, { accessFlags := 1, nameIndex := 68, descriptorIndex := 69, attributes := #[] }] 32 4 #[27] #[{ accessFlags := 0, nameIndex := 18, descriptorIndex := 19, attributes := #[] }, { accessFlags := 0, nameIndex := 22, descriptorIndex := 19, attributes := #[] }, { accessFlags := 0, nameIndex := 59, descriptorIndex := 26, attributes := #[] }, { accessFlags := 0, nameIndex := 61, descriptorIndex := 26, attributes := #[] }, { accessFlags := 0, nameIndex := 25, descriptorIndex := 26, attributes := #[] }, { accessFlags := 0, nameIndex := 14, descriptorIndex := 15, attributes := #[] }])
  fields := #[{ name := "key", type := (.object "java/lang/Object"), accessFlags := 0, slot := 0, constantValue := 0 }, { name := "value", type := (.object "java/lang/Object"), accessFlags := 0, slot := 1, constantValue := 0 }, { name := "left", type := (.object "com/example/rosewood/rosewood/RosewoodMap$Node"), accessFlags := 0, slot := 2, constantValue := 0 }, { name := "right", type := (.object "com/example/rosewood/rosewood/RosewoodMap$Node"), accessFlags := 0, slot := 3, constantValue := 0 }, { name := "parent", type := (.object "com/example/rosewood/rosewood/RosewoodMap$Node"), accessFlags := 0, slot := 4, constantValue := 0 }, { name := "redAndLeftCount", type := .int, accessFlags := 0, slot := 5, constantValue := 0 }]
  methods := #[k16m0, k16m1]
  instanceTypes := #[(.object "java/lang/Object"), (.object "java/lang/Object"), (.object "com/example/rosewood/rosewood/RosewoodMap$Node"), (.object "com/example/rosewood/rosewood/RosewoodMap$Node"), (.object "com/example/rosewood/rosewood/RosewoodMap$Node"), .int]
  staticTypes := #[]
  resolved := Array.replicate 99 none
  statics := none }

def pool17 : Array CpInfo := pool [(1, u "java/lang/Cloneable"), (0, .class_ 1), (0, u "java/lang/Object"), (0, .class_ 3)] 3

/-- java/lang/Cloneable -/
def k17 : Class := { plain "java/lang/Cloneable" (some 0) with
  accessFlags := 1537
  interfaces := #[]
  cf := some (fileOf pool17 2 #[] #[] 1537 4 #[] #[])
  fields := #[]
  methods := #[]
  instanceTypes := #[]
  staticTypes := #[]
  resolved := Array.replicate 8 none
  statics := none }

/-- the primitive byte -/
def k18 : Class := { plain "byte" none with kind := .primitive 'B', accessFlags := 0x411 }
/-- [B -/
def k19 : Class := { plain "[B" (some 0) with kind := .array 18 .byte, interfaces := #[17, 8], accessFlags := 1041 }

/-- the primitive int -/
def k20 : Class := { plain "int" none with kind := .primitive 'I', accessFlags := 0x411 }
/-- [I -/
def k21 : Class := { plain "[I" (some 0) with kind := .array 20 .int, interfaces := #[17, 8], accessFlags := 1041 }

/-- [Ljava/lang/Integer; -/
def k22 : Class := { plain "[Ljava/lang/Integer;" (some 0) with kind := .array 13 (.object "java/lang/Integer"), interfaces := #[17, 8], accessFlags := 1041 }

def heap : Heap := #[{ cls := 14, slots := #[.int 0, .int 127, .ref 1, .null, .int 0], vm := .statics 14 },
  { cls := 22, slots := #[.ref 2, .ref 3, .ref 4, .ref 5, .ref 6, .ref 7, .ref 8, .ref 9, .ref 10, .ref 11, .ref 12, .ref 13, .ref 14, .ref 15, .ref 16, .ref 17, .ref 18, .ref 19, .ref 20, .ref 21, .ref 22, .ref 23, .ref 24, .ref 25, .ref 26, .ref 27, .ref 28, .ref 29, .ref 30, .ref 31, .ref 32, .ref 33, .ref 34, .ref 35, .ref 36, .ref 37, .ref 38, .ref 39, .ref 40, .ref 41, .ref 42, .ref 43, .ref 44, .ref 45, .ref 46, .ref 47, .ref 48, .ref 49, .ref 50, .ref 51, .ref 52, .ref 53, .ref 54, .ref 55, .ref 56, .ref 57, .ref 58, .ref 59, .ref 60, .ref 61, .ref 62, .ref 63, .ref 64, .ref 65, .ref 66, .ref 67, .ref 68, .ref 69, .ref 70, .ref 71, .ref 72, .ref 73, .ref 74, .ref 75, .ref 76, .ref 77, .ref 78, .ref 79, .ref 80, .ref 81, .ref 82, .ref 83, .ref 84, .ref 85, .ref 86, .ref 87, .ref 88, .ref 89, .ref 90, .ref 91, .ref 92, .ref 93, .ref 94, .ref 95, .ref 96, .ref 97, .ref 98, .ref 99, .ref 100, .ref 101, .ref 102, .ref 103, .ref 104, .ref 105, .ref 106, .ref 107, .ref 108, .ref 109, .ref 110, .ref 111, .ref 112, .ref 113, .ref 114, .ref 115, .ref 116, .ref 117, .ref 118, .ref 119, .ref 120, .ref 121, .ref 122, .ref 123, .ref 124, .ref 125, .ref 126, .ref 127, .ref 128, .ref 129, .ref 130, .ref 131, .ref 132, .ref 133, .ref 134, .ref 135, .ref 136, .ref 137, .ref 138, .ref 139, .ref 140, .ref 141, .ref 142, .ref 143, .ref 144, .ref 145, .ref 146, .ref 147, .ref 148, .ref 149, .ref 150, .ref 151, .ref 152, .ref 153, .ref 154, .ref 155, .ref 156, .ref 157, .ref 158, .ref 159, .ref 160, .ref 161, .ref 162, .ref 163, .ref 164, .ref 165, .ref 166, .ref 167, .ref 168, .ref 169, .ref 170, .ref 171, .ref 172, .ref 173, .ref 174, .ref 175, .ref 176, .ref 177, .ref 178, .ref 179, .ref 180, .ref 181, .ref 182, .ref 183, .ref 184, .ref 185, .ref 186, .ref 187, .ref 188, .ref 189, .ref 190, .ref 191, .ref 192, .ref 193, .ref 194, .ref 195, .ref 196, .ref 197, .ref 198, .ref 199, .ref 200, .ref 201, .ref 202, .ref 203, .ref 204, .ref 205, .ref 206, .ref 207, .ref 208, .ref 209, .ref 210, .ref 211, .ref 212, .ref 213, .ref 214, .ref 215, .ref 216, .ref 217, .ref 218, .ref 219, .ref 220, .ref 221, .ref 222, .ref 223, .ref 224, .ref 225, .ref 226, .ref 227, .ref 228, .ref 229, .ref 230, .ref 231, .ref 232, .ref 233, .ref 234, .ref 235, .ref 236, .ref 237, .ref 238, .ref 239, .ref 240, .ref 241, .ref 242, .ref 243, .ref 244, .ref 245, .ref 246, .ref 247, .ref 248, .ref 249, .ref 250, .ref 251, .ref 252, .ref 253, .ref 254, .ref 255, .ref 256, .ref 257], vm := .none },
  { cls := 13, slots := #[.int (-128)], vm := .none },
  { cls := 13, slots := #[.int (-127)], vm := .none },
  { cls := 13, slots := #[.int (-126)], vm := .none },
  { cls := 13, slots := #[.int (-125)], vm := .none },
  { cls := 13, slots := #[.int (-124)], vm := .none },
  { cls := 13, slots := #[.int (-123)], vm := .none },
  { cls := 13, slots := #[.int (-122)], vm := .none },
  { cls := 13, slots := #[.int (-121)], vm := .none },
  { cls := 13, slots := #[.int (-120)], vm := .none },
  { cls := 13, slots := #[.int (-119)], vm := .none },
  { cls := 13, slots := #[.int (-118)], vm := .none },
  { cls := 13, slots := #[.int (-117)], vm := .none },
  { cls := 13, slots := #[.int (-116)], vm := .none },
  { cls := 13, slots := #[.int (-115)], vm := .none },
  { cls := 13, slots := #[.int (-114)], vm := .none },
  { cls := 13, slots := #[.int (-113)], vm := .none },
  { cls := 13, slots := #[.int (-112)], vm := .none },
  { cls := 13, slots := #[.int (-111)], vm := .none },
  { cls := 13, slots := #[.int (-110)], vm := .none },
  { cls := 13, slots := #[.int (-109)], vm := .none },
  { cls := 13, slots := #[.int (-108)], vm := .none },
  { cls := 13, slots := #[.int (-107)], vm := .none },
  { cls := 13, slots := #[.int (-106)], vm := .none },
  { cls := 13, slots := #[.int (-105)], vm := .none },
  { cls := 13, slots := #[.int (-104)], vm := .none },
  { cls := 13, slots := #[.int (-103)], vm := .none },
  { cls := 13, slots := #[.int (-102)], vm := .none },
  { cls := 13, slots := #[.int (-101)], vm := .none },
  { cls := 13, slots := #[.int (-100)], vm := .none },
  { cls := 13, slots := #[.int (-99)], vm := .none },
  { cls := 13, slots := #[.int (-98)], vm := .none },
  { cls := 13, slots := #[.int (-97)], vm := .none },
  { cls := 13, slots := #[.int (-96)], vm := .none },
  { cls := 13, slots := #[.int (-95)], vm := .none },
  { cls := 13, slots := #[.int (-94)], vm := .none },
  { cls := 13, slots := #[.int (-93)], vm := .none },
  { cls := 13, slots := #[.int (-92)], vm := .none },
  { cls := 13, slots := #[.int (-91)], vm := .none },
  { cls := 13, slots := #[.int (-90)], vm := .none },
  { cls := 13, slots := #[.int (-89)], vm := .none },
  { cls := 13, slots := #[.int (-88)], vm := .none },
  { cls := 13, slots := #[.int (-87)], vm := .none },
  { cls := 13, slots := #[.int (-86)], vm := .none },
  { cls := 13, slots := #[.int (-85)], vm := .none },
  { cls := 13, slots := #[.int (-84)], vm := .none },
  { cls := 13, slots := #[.int (-83)], vm := .none },
  { cls := 13, slots := #[.int (-82)], vm := .none },
  { cls := 13, slots := #[.int (-81)], vm := .none },
  { cls := 13, slots := #[.int (-80)], vm := .none },
  { cls := 13, slots := #[.int (-79)], vm := .none },
  { cls := 13, slots := #[.int (-78)], vm := .none },
  { cls := 13, slots := #[.int (-77)], vm := .none },
  { cls := 13, slots := #[.int (-76)], vm := .none },
  { cls := 13, slots := #[.int (-75)], vm := .none },
  { cls := 13, slots := #[.int (-74)], vm := .none },
  { cls := 13, slots := #[.int (-73)], vm := .none },
  { cls := 13, slots := #[.int (-72)], vm := .none },
  { cls := 13, slots := #[.int (-71)], vm := .none },
  { cls := 13, slots := #[.int (-70)], vm := .none },
  { cls := 13, slots := #[.int (-69)], vm := .none },
  { cls := 13, slots := #[.int (-68)], vm := .none },
  { cls := 13, slots := #[.int (-67)], vm := .none },
  { cls := 13, slots := #[.int (-66)], vm := .none },
  { cls := 13, slots := #[.int (-65)], vm := .none },
  { cls := 13, slots := #[.int (-64)], vm := .none },
  { cls := 13, slots := #[.int (-63)], vm := .none },
  { cls := 13, slots := #[.int (-62)], vm := .none },
  { cls := 13, slots := #[.int (-61)], vm := .none },
  { cls := 13, slots := #[.int (-60)], vm := .none },
  { cls := 13, slots := #[.int (-59)], vm := .none },
  { cls := 13, slots := #[.int (-58)], vm := .none },
  { cls := 13, slots := #[.int (-57)], vm := .none },
  { cls := 13, slots := #[.int (-56)], vm := .none },
  { cls := 13, slots := #[.int (-55)], vm := .none },
  { cls := 13, slots := #[.int (-54)], vm := .none },
  { cls := 13, slots := #[.int (-53)], vm := .none },
  { cls := 13, slots := #[.int (-52)], vm := .none },
  { cls := 13, slots := #[.int (-51)], vm := .none },
  { cls := 13, slots := #[.int (-50)], vm := .none },
  { cls := 13, slots := #[.int (-49)], vm := .none },
  { cls := 13, slots := #[.int (-48)], vm := .none },
  { cls := 13, slots := #[.int (-47)], vm := .none },
  { cls := 13, slots := #[.int (-46)], vm := .none },
  { cls := 13, slots := #[.int (-45)], vm := .none },
  { cls := 13, slots := #[.int (-44)], vm := .none },
  { cls := 13, slots := #[.int (-43)], vm := .none },
  { cls := 13, slots := #[.int (-42)], vm := .none },
  { cls := 13, slots := #[.int (-41)], vm := .none },
  { cls := 13, slots := #[.int (-40)], vm := .none },
  { cls := 13, slots := #[.int (-39)], vm := .none },
  { cls := 13, slots := #[.int (-38)], vm := .none },
  { cls := 13, slots := #[.int (-37)], vm := .none },
  { cls := 13, slots := #[.int (-36)], vm := .none },
  { cls := 13, slots := #[.int (-35)], vm := .none },
  { cls := 13, slots := #[.int (-34)], vm := .none },
  { cls := 13, slots := #[.int (-33)], vm := .none },
  { cls := 13, slots := #[.int (-32)], vm := .none },
  { cls := 13, slots := #[.int (-31)], vm := .none },
  { cls := 13, slots := #[.int (-30)], vm := .none },
  { cls := 13, slots := #[.int (-29)], vm := .none },
  { cls := 13, slots := #[.int (-28)], vm := .none },
  { cls := 13, slots := #[.int (-27)], vm := .none },
  { cls := 13, slots := #[.int (-26)], vm := .none },
  { cls := 13, slots := #[.int (-25)], vm := .none },
  { cls := 13, slots := #[.int (-24)], vm := .none },
  { cls := 13, slots := #[.int (-23)], vm := .none },
  { cls := 13, slots := #[.int (-22)], vm := .none },
  { cls := 13, slots := #[.int (-21)], vm := .none },
  { cls := 13, slots := #[.int (-20)], vm := .none },
  { cls := 13, slots := #[.int (-19)], vm := .none },
  { cls := 13, slots := #[.int (-18)], vm := .none },
  { cls := 13, slots := #[.int (-17)], vm := .none },
  { cls := 13, slots := #[.int (-16)], vm := .none },
  { cls := 13, slots := #[.int (-15)], vm := .none },
  { cls := 13, slots := #[.int (-14)], vm := .none },
  { cls := 13, slots := #[.int (-13)], vm := .none },
  { cls := 13, slots := #[.int (-12)], vm := .none },
  { cls := 13, slots := #[.int (-11)], vm := .none },
  { cls := 13, slots := #[.int (-10)], vm := .none },
  { cls := 13, slots := #[.int (-9)], vm := .none },
  { cls := 13, slots := #[.int (-8)], vm := .none },
  { cls := 13, slots := #[.int (-7)], vm := .none },
  { cls := 13, slots := #[.int (-6)], vm := .none },
  { cls := 13, slots := #[.int (-5)], vm := .none },
  { cls := 13, slots := #[.int (-4)], vm := .none },
  { cls := 13, slots := #[.int (-3)], vm := .none },
  { cls := 13, slots := #[.int (-2)], vm := .none },
  { cls := 13, slots := #[.int (-1)], vm := .none },
  { cls := 13, slots := #[.int 0], vm := .none },
  { cls := 13, slots := #[.int 1], vm := .none },
  { cls := 13, slots := #[.int 2], vm := .none },
  { cls := 13, slots := #[.int 3], vm := .none },
  { cls := 13, slots := #[.int 4], vm := .none },
  { cls := 13, slots := #[.int 5], vm := .none },
  { cls := 13, slots := #[.int 6], vm := .none },
  { cls := 13, slots := #[.int 7], vm := .none },
  { cls := 13, slots := #[.int 8], vm := .none },
  { cls := 13, slots := #[.int 9], vm := .none },
  { cls := 13, slots := #[.int 10], vm := .none },
  { cls := 13, slots := #[.int 11], vm := .none },
  { cls := 13, slots := #[.int 12], vm := .none },
  { cls := 13, slots := #[.int 13], vm := .none },
  { cls := 13, slots := #[.int 14], vm := .none },
  { cls := 13, slots := #[.int 15], vm := .none },
  { cls := 13, slots := #[.int 16], vm := .none },
  { cls := 13, slots := #[.int 17], vm := .none },
  { cls := 13, slots := #[.int 18], vm := .none },
  { cls := 13, slots := #[.int 19], vm := .none },
  { cls := 13, slots := #[.int 20], vm := .none },
  { cls := 13, slots := #[.int 21], vm := .none },
  { cls := 13, slots := #[.int 22], vm := .none },
  { cls := 13, slots := #[.int 23], vm := .none },
  { cls := 13, slots := #[.int 24], vm := .none },
  { cls := 13, slots := #[.int 25], vm := .none },
  { cls := 13, slots := #[.int 26], vm := .none },
  { cls := 13, slots := #[.int 27], vm := .none },
  { cls := 13, slots := #[.int 28], vm := .none },
  { cls := 13, slots := #[.int 29], vm := .none },
  { cls := 13, slots := #[.int 30], vm := .none },
  { cls := 13, slots := #[.int 31], vm := .none },
  { cls := 13, slots := #[.int 32], vm := .none },
  { cls := 13, slots := #[.int 33], vm := .none },
  { cls := 13, slots := #[.int 34], vm := .none },
  { cls := 13, slots := #[.int 35], vm := .none },
  { cls := 13, slots := #[.int 36], vm := .none },
  { cls := 13, slots := #[.int 37], vm := .none },
  { cls := 13, slots := #[.int 38], vm := .none },
  { cls := 13, slots := #[.int 39], vm := .none },
  { cls := 13, slots := #[.int 40], vm := .none },
  { cls := 13, slots := #[.int 41], vm := .none },
  { cls := 13, slots := #[.int 42], vm := .none },
  { cls := 13, slots := #[.int 43], vm := .none },
  { cls := 13, slots := #[.int 44], vm := .none },
  { cls := 13, slots := #[.int 45], vm := .none },
  { cls := 13, slots := #[.int 46], vm := .none },
  { cls := 13, slots := #[.int 47], vm := .none },
  { cls := 13, slots := #[.int 48], vm := .none },
  { cls := 13, slots := #[.int 49], vm := .none },
  { cls := 13, slots := #[.int 50], vm := .none },
  { cls := 13, slots := #[.int 51], vm := .none },
  { cls := 13, slots := #[.int 52], vm := .none },
  { cls := 13, slots := #[.int 53], vm := .none },
  { cls := 13, slots := #[.int 54], vm := .none },
  { cls := 13, slots := #[.int 55], vm := .none },
  { cls := 13, slots := #[.int 56], vm := .none },
  { cls := 13, slots := #[.int 57], vm := .none },
  { cls := 13, slots := #[.int 58], vm := .none },
  { cls := 13, slots := #[.int 59], vm := .none },
  { cls := 13, slots := #[.int 60], vm := .none },
  { cls := 13, slots := #[.int 61], vm := .none },
  { cls := 13, slots := #[.int 62], vm := .none },
  { cls := 13, slots := #[.int 63], vm := .none },
  { cls := 13, slots := #[.int 64], vm := .none },
  { cls := 13, slots := #[.int 65], vm := .none },
  { cls := 13, slots := #[.int 66], vm := .none },
  { cls := 13, slots := #[.int 67], vm := .none },
  { cls := 13, slots := #[.int 68], vm := .none },
  { cls := 13, slots := #[.int 69], vm := .none },
  { cls := 13, slots := #[.int 70], vm := .none },
  { cls := 13, slots := #[.int 71], vm := .none },
  { cls := 13, slots := #[.int 72], vm := .none },
  { cls := 13, slots := #[.int 73], vm := .none },
  { cls := 13, slots := #[.int 74], vm := .none },
  { cls := 13, slots := #[.int 75], vm := .none },
  { cls := 13, slots := #[.int 76], vm := .none },
  { cls := 13, slots := #[.int 77], vm := .none },
  { cls := 13, slots := #[.int 78], vm := .none },
  { cls := 13, slots := #[.int 79], vm := .none },
  { cls := 13, slots := #[.int 80], vm := .none },
  { cls := 13, slots := #[.int 81], vm := .none },
  { cls := 13, slots := #[.int 82], vm := .none },
  { cls := 13, slots := #[.int 83], vm := .none },
  { cls := 13, slots := #[.int 84], vm := .none },
  { cls := 13, slots := #[.int 85], vm := .none },
  { cls := 13, slots := #[.int 86], vm := .none },
  { cls := 13, slots := #[.int 87], vm := .none },
  { cls := 13, slots := #[.int 88], vm := .none },
  { cls := 13, slots := #[.int 89], vm := .none },
  { cls := 13, slots := #[.int 90], vm := .none },
  { cls := 13, slots := #[.int 91], vm := .none },
  { cls := 13, slots := #[.int 92], vm := .none },
  { cls := 13, slots := #[.int 93], vm := .none },
  { cls := 13, slots := #[.int 94], vm := .none },
  { cls := 13, slots := #[.int 95], vm := .none },
  { cls := 13, slots := #[.int 96], vm := .none },
  { cls := 13, slots := #[.int 97], vm := .none },
  { cls := 13, slots := #[.int 98], vm := .none },
  { cls := 13, slots := #[.int 99], vm := .none },
  { cls := 13, slots := #[.int 100], vm := .none },
  { cls := 13, slots := #[.int 101], vm := .none },
  { cls := 13, slots := #[.int 102], vm := .none },
  { cls := 13, slots := #[.int 103], vm := .none },
  { cls := 13, slots := #[.int 104], vm := .none },
  { cls := 13, slots := #[.int 105], vm := .none },
  { cls := 13, slots := #[.int 106], vm := .none },
  { cls := 13, slots := #[.int 107], vm := .none },
  { cls := 13, slots := #[.int 108], vm := .none },
  { cls := 13, slots := #[.int 109], vm := .none },
  { cls := 13, slots := #[.int 110], vm := .none },
  { cls := 13, slots := #[.int 111], vm := .none },
  { cls := 13, slots := #[.int 112], vm := .none },
  { cls := 13, slots := #[.int 113], vm := .none },
  { cls := 13, slots := #[.int 114], vm := .none },
  { cls := 13, slots := #[.int 115], vm := .none },
  { cls := 13, slots := #[.int 116], vm := .none },
  { cls := 13, slots := #[.int 117], vm := .none },
  { cls := 13, slots := #[.int 118], vm := .none },
  { cls := 13, slots := #[.int 119], vm := .none },
  { cls := 13, slots := #[.int 120], vm := .none },
  { cls := 13, slots := #[.int 121], vm := .none },
  { cls := 13, slots := #[.int 122], vm := .none },
  { cls := 13, slots := #[.int 123], vm := .none },
  { cls := 13, slots := #[.int 124], vm := .none },
  { cls := 13, slots := #[.int 125], vm := .none },
  { cls := 13, slots := #[.int 126], vm := .none },
  { cls := 13, slots := #[.int 127], vm := .none }]
def classes : Array Class := #[k0, k1, k2, k3, k4, k5, k6, k7, k8, k9, k10, k11, k12, k13, k14, k15, k16, k17, k18, k19, k20, k21, k22]
def interned : List (Array UInt16 × Addr) := []
def slotsUsed : Nat := 517
def theMethod : MethodId := ⟨1, 1⟩
def args0 : Array Value := #[.int 5, .int 5, .int 5, .int 5, .int 5]
def aboutOver (below : List Frame) : State where
  vm := { classes := classes, interned := interned.toArray }
  heap := heap
  slotsUsed := slotsUsed
  threads := #[{ frames := .invoking theMethod args0 :: below }]
def below0 : List Frame := [.native { method := ⟨0, 0⟩, args := #[] }]
def about1 : State := aboutOver below0
def p0 : Program := .bare "" "" ""
def e0 : Env := launch0.env 0 0 0
theorem w_frames : about1.frames = Frame.invoking theMethod args0 :: below0 := rfl
set_option maxRecDepth 65536 in
theorem w_args : argsFit about1.vm theMethod args0 = true := by decide +kernel
set_option maxRecDepth 65536 in
theorem w_heap : heapFits about1 = true := by decide +kernel
set_option maxRecDepth 65536 in
theorem w_runnable : about1.curStatus? = some .runnable := by decide +kernel
set_option maxRecDepth 65536 in
theorem w_alone : about1.alone = true := by decide +kernel
set_option maxRecDepth 65536 in
theorem w_named : about1.methodNamed? x = some theMethod := by decide +kernel
set_option maxRecDepth 65536 in
theorem w_hears : about1.hears theMethod below0 = true := by decide +kernel
set_option maxRecDepth 65536 in
theorem w_ripe : about1.ripe theMethod args0 below0 = true := by decide +kernel
theorem w_running : about1.status = .running := rfl
set_option maxRecDepth 65536 in
theorem w_room : about1.hasRoom e0.platform room_1 = true :=
  launch0.hasRoom_least _ room_1 (by decide +kernel) (by decide +kernel) (by decide +kernel) (by decide +kernel) (by decide +kernel) (by decide +kernel)
theorem allAtoms_all (ts : List Jvm.Cond) (a : Array Jvm.Value) (st : Jvm.State) : (allAtoms ts).before a st = ts.all (fun c => c.before a st) := by
  induction ts with
  | nil => rfl
  | cons c t ih =>
    show (Jvm.Cond.and c (allAtoms t)).before a st = _
    rw [Jvm.Cond.before_and, ih, List.all_cons]
def words1 : List Jvm.Cond := Jvm.Cond.code x code maxLocals ret :: tables_1
/-- a 'code' word, met by the world's own term for the bytes: nothing is compared byte by byte -/
theorem code_word {y : MethodName} {bytes : ByteArray} {mx : Nat} {rt : Option FieldType} {a : Array Value} {s : State} {m : MethodId} {meth : Method} {c : Code} (h1 : s.methodNamed? y = some m) (h2 : s.vm.method? m = some meth) (h3 : meth.code = some c) (h4 : c.code = bytes)
    (h5 : (c.maxLocals == mx && c.exceptionTable.isEmpty && decide (c.maxStack ≤ mostOperands) && decide (meth.sig.returnType = rt) && !meth.locks && decide (parseMethodDescriptor y.desc = some meth.sig)) = true) : (Jvm.Cond.code y bytes mx rt).before a s = true := by
  simp only [Bool.and_eq_true, beq_iff_eq, Bool.not_eq_true', decide_eq_true_eq] at h5
  obtain ⟨⟨⟨⟨⟨g1, g2⟩, g3⟩, g4⟩, g5⟩, g6⟩ := h5
  simp [Cond.before, Cond.holds, Cond.value, h1, h2, h3, h4, g1, g2, g3, g4, g5, g6]
def isCode : Jvm.Cond → Bool
  | .code _ _ _ _ => true
  | _ => false
theorem all_split {L : List Jvm.Cond} {P : Jvm.Cond → Bool} (h1 : L.all (fun c => isCode c || P c) = true) (h2 : ∀ c ∈ L.filter isCode, P c = true) : L.all P = true := by
  refine List.all_eq_true.mpr fun c hc => ?_
  have h := List.all_eq_true.mp h1 c hc
  rcases Bool.eq_false_or_eq_true (isCode c) with hi | hi
  · exact h2 c (List.mem_filter.mpr ⟨hc, hi⟩)
  · simpa [hi] using h
set_option maxRecDepth 65536 in
theorem w_c0 : (Jvm.Cond.code x code maxLocals ret).before args0 about1 = true := code_word (m := ⟨1, 1⟩) (meth := k1m1) (c := k1c1) (by decide +kernel) rfl rfl rfl (by decide +kernel)
set_option maxRecDepth 65536 in
theorem w_c1 : (Jvm.Cond.code ({ cls := "com/example/rosewood/rosewood/RosewoodMap", name := "<init>", desc := "()V" } : Jvm.MethodName) prog_7_method_1_code (1 : Nat) (Option.none : Option Jvm.ClassFile.FieldType)).before args0 about1 = true := code_word (m := ⟨7, 0⟩) (meth := k7m0) (c := k7c0) (by decide +kernel) rfl rfl rfl (by decide +kernel)
set_option maxRecDepth 65536 in
theorem w_c2 : (Jvm.Cond.code ({ cls := "com/example/rosewood/rosewood/RosewoodMap", name := "<init>", desc := "(Ljava/util/Comparator;)V" } : Jvm.MethodName) prog_7_method_2_code (2 : Nat) (Option.none : Option Jvm.ClassFile.FieldType)).before args0 about1 = true := code_word (m := ⟨7, 1⟩) (meth := k7m1) (c := k7c1) (by decide +kernel) rfl rfl rfl (by decide +kernel)
set_option maxRecDepth 65536 in
theorem w_c3 : (Jvm.Cond.code ({ cls := "java/util/AbstractMap", name := "<init>", desc := "()V" } : Jvm.MethodName) jdk_71_method_1_code (1 : Nat) (Option.none : Option Jvm.ClassFile.FieldType)).before args0 about1 = true := code_word (m := ⟨3, 0⟩) (meth := k3m0) (c := k3c0) (by decide +kernel) rfl rfl rfl (by decide +kernel)
set_option maxRecDepth 65536 in
theorem w_c4 : (Jvm.Cond.code ({ cls := "java/lang/Object", name := "<init>", desc := "()V" } : Jvm.MethodName) object_method_1_code (1 : Nat) (Option.none : Option Jvm.ClassFile.FieldType)).before args0 about1 = true := code_word (m := ⟨0, 0⟩) (meth := k0m0) (c := k0c0) (by decide +kernel) rfl rfl rfl (by decide +kernel)
set_option maxRecDepth 65536 in
theorem w_c5 : (Jvm.Cond.code ({ cls := "com/example/rosewood/rosewood/RosewoodMap", name := "first", desc := "()Lcom/example/rosewood/rosewood/RosewoodMap$Node;" } : Jvm.MethodName) prog_7_method_73_code (1 : Nat) (Option.some (Jvm.ClassFile.FieldType.object "com/example/rosewood/rosewood/RosewoodMap$Node"))).before args0 about1 = true := code_word (m := ⟨7, 9⟩) (meth := k7m9) (c := k7c9) (by decide +kernel) rfl rfl rfl (by decide +kernel)
set_option maxRecDepth 65536 in
theorem w_c6 : (Jvm.Cond.code ({ cls := "java/lang/Integer", name := "valueOf", desc := "(I)Ljava/lang/Integer;" } : Jvm.MethodName) jdk_33_method_22_code (1 : Nat) (Option.some (Jvm.ClassFile.FieldType.object "java/lang/Integer"))).before args0 about1 = true := code_word (m := ⟨13, 0⟩) (meth := k13m0) (c := k13c0) (by decide +kernel) rfl rfl rfl (by decide +kernel)
set_option maxRecDepth 65536 in
theorem w_c7 : (Jvm.Cond.code ({ cls := "com/example/rosewood/rosewood/RosewoodMap", name := "put", desc := "(Ljava/lang/Object;Ljava/lang/Object;)Ljava/lang/Object;" } : Jvm.MethodName) prog_7_method_8_code (4 : Nat) (Option.some (Jvm.ClassFile.FieldType.object "java/lang/Object"))).before args0 about1 = true := code_word (m := ⟨7, 2⟩) (meth := k7m2) (c := k7c2) (by decide +kernel) rfl rfl rfl (by decide +kernel)
set_option maxRecDepth 65536 in
theorem w_c8 : (Jvm.Cond.code ({ cls := "com/example/rosewood/rosewood/RosewoodMap", name := "compare", desc := "(Ljava/lang/Object;Ljava/lang/Object;)I" } : Jvm.MethodName) prog_7_method_72_code (3 : Nat) (Option.some Jvm.ClassFile.FieldType.int)).before args0 about1 = true := code_word (m := ⟨7, 8⟩) (meth := k7m8) (c := k7c8) (by decide +kernel) rfl rfl rfl (by decide +kernel)
set_option maxRecDepth 65536 in
theorem w_c9 : (Jvm.Cond.code ({ cls := "java/lang/Integer", name := "compareTo", desc := "(Ljava/lang/Object;)I" } : Jvm.MethodName) jdk_33_method_63_code (2 : Nat) (Option.some Jvm.ClassFile.FieldType.int)).before args0 about1 = true := code_word (m := ⟨13, 5⟩) (meth := k13m5) (c := k13c5) (by decide +kernel) rfl rfl rfl (by decide +kernel)
set_option maxRecDepth 65536 in
theorem w_c10 : (Jvm.Cond.code ({ cls := "java/lang/Integer", name := "compareTo", desc := "(Ljava/lang/Integer;)I" } : Jvm.MethodName) jdk_33_method_39_code (2 : Nat) (Option.some Jvm.ClassFile.FieldType.int)).before args0 about1 = true := code_word (m := ⟨13, 3⟩) (meth := k13m3) (c := k13c3) (by decide +kernel) rfl rfl rfl (by decide +kernel)
set_option maxRecDepth 65536 in
theorem w_c11 : (Jvm.Cond.code ({ cls := "java/lang/Integer", name := "compare", desc := "(II)I" } : Jvm.MethodName) jdk_33_method_40_code (2 : Nat) (Option.some Jvm.ClassFile.FieldType.int)).before args0 about1 = true := code_word (m := ⟨13, 4⟩) (meth := k13m4) (c := k13c4) (by decide +kernel) rfl rfl rfl (by decide +kernel)
set_option maxRecDepth 65536 in
theorem w_c12 : (Jvm.Cond.code ({ cls := "com/example/rosewood/rosewood/RosewoodMap", name := "newNode", desc := "(Ljava/lang/Object;Ljava/lang/Object;Lcom/example/rosewood/rosewood/RosewoodMap$Node;)Lcom/example/rosewood/rosewood/RosewoodMap$Node;" } : Jvm.MethodName) prog_7_method_51_code (4 : Nat) (Option.some (Jvm.ClassFile.FieldType.object "com/example/rosewood/rosewood/RosewoodMap$Node"))).before args0 about1 = true := code_word (m := ⟨7, 3⟩) (meth := k7m3) (c := k7c3) (by decide +kernel) rfl rfl rfl (by decide +kernel)
set_option maxRecDepth 65536 in
theorem w_c13 : (Jvm.Cond.code ({ cls := "com/example/rosewood/rosewood/RosewoodMap$Node", name := "<init>", desc := "(Ljava/lang/Object;Ljava/lang/Object;Lcom/example/rosewood/rosewood/RosewoodMap$Node;)V" } : Jvm.MethodName) prog_8_method_1_code (4 : Nat) (Option.none : Option Jvm.ClassFile.FieldType)).before args0 about1 = true := code_word (m := ⟨16, 0⟩) (meth := k16m0) (c := k16c0) (by decide +kernel) rfl rfl rfl (by decide +kernel)
set_option maxRecDepth 65536 in
theorem w_c14 : (Jvm.Cond.code ({ cls := "com/example/rosewood/rosewood/RosewoodMap", name := "setRed", desc := "(Lcom/example/rosewood/rosewood/RosewoodMap$Node;Z)V" } : Jvm.MethodName) prog_7_method_82_code (2 : Nat) (Option.none : Option Jvm.ClassFile.FieldType)).before args0 about1 = true := code_word (m := ⟨7, 13⟩) (meth := k7m13) (c := k7c13) (by decide +kernel) rfl rfl rfl (by decide +kernel)
set_option maxRecDepth 65536 in
theorem w_c15 : (Jvm.Cond.code ({ cls := "com/example/rosewood/rosewood/RosewoodMap", name := "keyOf", desc := "(Lcom/example/rosewood/rosewood/RosewoodMap$Node;)Ljava/lang/Object;" } : Jvm.MethodName) prog_7_method_76_code (1 : Nat) (Option.some (Jvm.ClassFile.FieldType.object "java/lang/Object"))).before args0 about1 = true := code_word (m := ⟨7, 10⟩) (meth := k7m10) (c := k7c10) (by decide +kernel) rfl rfl rfl (by decide +kernel)
set_option maxRecDepth 65536 in
theorem w_c16 : (Jvm.Cond.code ({ cls := "com/example/rosewood/rosewood/RosewoodMap", name := "refreshToRoot", desc := "(Lcom/example/rosewood/rosewood/RosewoodMap$Node;)V" } : Jvm.MethodName) prog_7_method_55_code (2 : Nat) (Option.none : Option Jvm.ClassFile.FieldType)).before args0 about1 = true := code_word (m := ⟨7, 6⟩) (meth := k7m6) (c := k7c6) (by decide +kernel) rfl rfl rfl (by decide +kernel)
set_option maxRecDepth 65536 in
theorem w_c17 : (Jvm.Cond.code ({ cls := "com/example/rosewood/rosewood/RosewoodMap", name := "balanceAfterInsert", desc := "(Lcom/example/rosewood/rosewood/RosewoodMap$Node;)V" } : Jvm.MethodName) prog_7_method_90_code (6 : Nat) (Option.none : Option Jvm.ClassFile.FieldType)).before args0 about1 = true := code_word (m := ⟨7, 21⟩) (meth := k7m21) (c := k7c21) (by decide +kernel) rfl rfl rfl (by decide +kernel)
set_option maxRecDepth 65536 in
theorem w_c18 : (Jvm.Cond.code ({ cls := "com/example/rosewood/rosewood/RosewoodMap", name := "isRed", desc := "(Lcom/example/rosewood/rosewood/RosewoodMap$Node;)Z" } : Jvm.MethodName) prog_7_method_81_code (1 : Nat) (Option.some Jvm.ClassFile.FieldType.boolean)).before args0 about1 = true := code_word (m := ⟨7, 12⟩) (meth := k7m12) (c := k7c12) (by decide +kernel) rfl rfl rfl (by decide +kernel)
set_option maxRecDepth 65536 in
theorem w_c19 : (Jvm.Cond.code ({ cls := "com/example/rosewood/rosewood/RosewoodMap", name := "rotateLeft", desc := "(Lcom/example/rosewood/rosewood/RosewoodMap$Node;)V" } : Jvm.MethodName) prog_7_method_88_code (3 : Nat) (Option.none : Option Jvm.ClassFile.FieldType)).before args0 about1 = true := code_word (m := ⟨7, 19⟩) (meth := k7m19) (c := k7c19) (by decide +kernel) rfl rfl rfl (by decide +kernel)
set_option maxRecDepth 65536 in
theorem w_c20 : (Jvm.Cond.code ({ cls := "com/example/rosewood/rosewood/RosewoodMap", name := "replaceInParent", desc := "(Lcom/example/rosewood/rosewood/RosewoodMap$Node;Lcom/example/rosewood/rosewood/RosewoodMap$Node;)V" } : Jvm.MethodName) prog_7_method_87_code (4 : Nat) (Option.none : Option Jvm.ClassFile.FieldType)).before args0 about1 = true := code_word (m := ⟨7, 18⟩) (meth := k7m18) (c := k7c18) (by decide +kernel) rfl rfl rfl (by decide +kernel)
set_option maxRecDepth 65536 in
theorem w_c21 : (Jvm.Cond.code ({ cls := "com/example/rosewood/rosewood/RosewoodMap", name := "leftCount", desc := "(Lcom/example/rosewood/rosewood/RosewoodMap$Node;)I" } : Jvm.MethodName) prog_7_method_83_code (1 : Nat) (Option.some Jvm.ClassFile.FieldType.int)).before args0 about1 = true := code_word (m := ⟨7, 14⟩) (meth := k7m14) (c := k7c14) (by decide +kernel) rfl rfl rfl (by decide +kernel)
set_option maxRecDepth 65536 in
theorem w_c22 : (Jvm.Cond.code ({ cls := "com/example/rosewood/rosewood/RosewoodMap", name := "addToLeftCount", desc := "(Lcom/example/rosewood/rosewood/RosewoodMap$Node;I)V" } : Jvm.MethodName) prog_7_method_84_code (2 : Nat) (Option.none : Option Jvm.ClassFile.FieldType)).before args0 about1 = true := code_word (m := ⟨7, 15⟩) (meth := k7m15) (c := k7c15) (by decide +kernel) rfl rfl rfl (by decide +kernel)
set_option maxRecDepth 65536 in
theorem w_c23 : (Jvm.Cond.code ({ cls := "com/example/rosewood/rosewood/RosewoodMap", name := "refresh", desc := "(Lcom/example/rosewood/rosewood/RosewoodMap$Node;)V" } : Jvm.MethodName) prog_7_method_54_code (2 : Nat) (Option.none : Option Jvm.ClassFile.FieldType)).before args0 about1 = true := code_word (m := ⟨7, 5⟩) (meth := k7m5) (c := k7c5) (by decide +kernel) rfl rfl rfl (by decide +kernel)
set_option maxRecDepth 65536 in
theorem w_c24 : (Jvm.Cond.code ({ cls := "com/example/rosewood/rosewood/RosewoodMap", name := "leftmost", desc := "(Lcom/example/rosewood/rosewood/RosewoodMap$Node;)Lcom/example/rosewood/rosewood/RosewoodMap$Node;" } : Jvm.MethodName) prog_7_method_77_code (2 : Nat) (Option.some (Jvm.ClassFile.FieldType.object "com/example/rosewood/rosewood/RosewoodMap$Node"))).before args0 about1 = true := code_word (m := ⟨7, 11⟩) (meth := k7m11) (c := k7c11) (by decide +kernel) rfl rfl rfl (by decide +kernel)
set_option maxRecDepth 65536 in
theorem w_c25 : (Jvm.Cond.code ({ cls := "java/lang/Integer", name := "intValue", desc := "()I" } : Jvm.MethodName) jdk_33_method_27_code (1 : Nat) (Option.some Jvm.ClassFile.FieldType.int)).before args0 about1 = true := code_word (m := ⟨13, 2⟩) (meth := k13m2) (c := k13c2) (by decide +kernel) rfl rfl rfl (by decide +kernel)
set_option maxRecDepth 65536 in
theorem w_c26 : (Jvm.Cond.code ({ cls := "java/lang/Integer", name := "<init>", desc := "(I)V" } : Jvm.MethodName) jdk_33_method_23_code (2 : Nat) (Option.none : Option Jvm.ClassFile.FieldType)).before args0 about1 = true := code_word (m := ⟨13, 1⟩) (meth := k13m1) (c := k13c1) (by decide +kernel) rfl rfl rfl (by decide +kernel)
set_option maxRecDepth 65536 in
theorem w_c27 : (Jvm.Cond.code ({ cls := "java/lang/Number", name := "<init>", desc := "()V" } : Jvm.MethodName) jdk_18_method_1_code (1 : Nat) (Option.none : Option Jvm.ClassFile.FieldType)).before args0 about1 = true := code_word (m := ⟨9, 0⟩) (meth := k9m0) (c := k9c0) (by decide +kernel) rfl rfl rfl (by decide +kernel)
set_option maxRecDepth 65536 in
theorem w_c28 : (Jvm.Cond.code ({ cls := "com/example/rosewood/rosewood/RosewoodMap", name := "countPlace", desc := "(Lcom/example/rosewood/rosewood/RosewoodMap$Node;II)V" } : Jvm.MethodName) prog_7_method_86_code (3 : Nat) (Option.none : Option Jvm.ClassFile.FieldType)).before args0 about1 = true := code_word (m := ⟨7, 17⟩) (meth := k7m17) (c := k7c17) (by decide +kernel) rfl rfl rfl (by decide +kernel)
set_option maxRecDepth 65536 in
theorem w_c29 : (Jvm.Cond.code ({ cls := "com/example/rosewood/rosewood/RosewoodMap", name := "countAbove", desc := "(Lcom/example/rosewood/rosewood/RosewoodMap$Node;I)V" } : Jvm.MethodName) prog_7_method_85_code (4 : Nat) (Option.none : Option Jvm.ClassFile.FieldType)).before args0 about1 = true := code_word (m := ⟨7, 16⟩) (meth := k7m16) (c := k7c16) (by decide +kernel) rfl rfl rfl (by decide +kernel)
set_option maxRecDepth 65536 in
theorem w_c30 : (Jvm.Cond.code ({ cls := "com/example/rosewood/rosewood/RosewoodMap", name := "replaceValue", desc := "(Lcom/example/rosewood/rosewood/RosewoodMap$Node;Ljava/lang/Object;)Ljava/lang/Object;" } : Jvm.MethodName) prog_7_method_52_code (3 : Nat) (Option.some (Jvm.ClassFile.FieldType.object "java/lang/Object"))).before args0 about1 = true := code_word (m := ⟨7, 4⟩) (meth := k7m4) (c := k7c4) (by decide +kernel) rfl rfl rfl (by decide +kernel)
set_option maxRecDepth 65536 in
theorem w_c31 : (Jvm.Cond.code ({ cls := "com/example/rosewood/rosewood/RosewoodMap$Node", name := "setValue", desc := "(Ljava/lang/Object;)Ljava/lang/Object;" } : Jvm.MethodName) prog_8_method_4_code (3 : Nat) (Option.some (Jvm.ClassFile.FieldType.object "java/lang/Object"))).before args0 about1 = true := code_word (m := ⟨16, 1⟩) (meth := k16m1) (c := k16c1) (by decide +kernel) rfl rfl rfl (by decide +kernel)
set_option maxRecDepth 65536 in
theorem w_c32 : (Jvm.Cond.code ({ cls := "com/example/rosewood/rosewood/RosewoodMap", name := "rotateRight", desc := "(Lcom/example/rosewood/rosewood/RosewoodMap$Node;)V" } : Jvm.MethodName) prog_7_method_89_code (3 : Nat) (Option.none : Option Jvm.ClassFile.FieldType)).before args0 about1 = true := code_word (m := ⟨7, 20⟩) (meth := k7m20) (c := k7c20) (by decide +kernel) rfl rfl rfl (by decide +kernel)
def codes1 : List Jvm.Cond := [Jvm.Cond.code x code maxLocals ret, Jvm.Cond.code ({ cls := "com/example/rosewood/rosewood/RosewoodMap", name := "<init>", desc := "()V" } : Jvm.MethodName) prog_7_method_1_code (1 : Nat) (Option.none : Option Jvm.ClassFile.FieldType), Jvm.Cond.code ({ cls := "com/example/rosewood/rosewood/RosewoodMap", name := "<init>", desc := "(Ljava/util/Comparator;)V" } : Jvm.MethodName) prog_7_method_2_code (2 : Nat) (Option.none : Option Jvm.ClassFile.FieldType), Jvm.Cond.code ({ cls := "java/util/AbstractMap", name := "<init>", desc := "()V" } : Jvm.MethodName) jdk_71_method_1_code (1 : Nat) (Option.none : Option Jvm.ClassFile.FieldType), Jvm.Cond.code ({ cls := "java/lang/Object", name := "<init>", desc := "()V" } : Jvm.MethodName) object_method_1_code (1 : Nat) (Option.none : Option Jvm.ClassFile.FieldType), Jvm.Cond.code ({ cls := "com/example/rosewood/rosewood/RosewoodMap", name := "first", desc := "()Lcom/example/rosewood/rosewood/RosewoodMap$Node;" } : Jvm.MethodName) prog_7_method_73_code (1 : Nat) (Option.some (Jvm.ClassFile.FieldType.object "com/example/rosewood/rosewood/RosewoodMap$Node")), Jvm.Cond.code ({ cls := "java/lang/Integer", name := "valueOf", desc := "(I)Ljava/lang/Integer;" } : Jvm.MethodName) jdk_33_method_22_code (1 : Nat) (Option.some (Jvm.ClassFile.FieldType.object "java/lang/Integer")), Jvm.Cond.code ({ cls := "com/example/rosewood/rosewood/RosewoodMap", name := "put", desc := "(Ljava/lang/Object;Ljava/lang/Object;)Ljava/lang/Object;" } : Jvm.MethodName) prog_7_method_8_code (4 : Nat) (Option.some (Jvm.ClassFile.FieldType.object "java/lang/Object")), Jvm.Cond.code ({ cls := "com/example/rosewood/rosewood/RosewoodMap", name := "compare", desc := "(Ljava/lang/Object;Ljava/lang/Object;)I" } : Jvm.MethodName) prog_7_method_72_code (3 : Nat) (Option.some Jvm.ClassFile.FieldType.int), Jvm.Cond.code ({ cls := "java/lang/Integer", name := "compareTo", desc := "(Ljava/lang/Object;)I" } : Jvm.MethodName) jdk_33_method_63_code (2 : Nat) (Option.some Jvm.ClassFile.FieldType.int), Jvm.Cond.code ({ cls := "java/lang/Integer", name := "compareTo", desc := "(Ljava/lang/Integer;)I" } : Jvm.MethodName) jdk_33_method_39_code (2 : Nat) (Option.some Jvm.ClassFile.FieldType.int), Jvm.Cond.code ({ cls := "java/lang/Integer", name := "compare", desc := "(II)I" } : Jvm.MethodName) jdk_33_method_40_code (2 : Nat) (Option.some Jvm.ClassFile.FieldType.int), Jvm.Cond.code ({ cls := "com/example/rosewood/rosewood/RosewoodMap", name := "newNode", desc := "(Ljava/lang/Object;Ljava/lang/Object;Lcom/example/rosewood/rosewood/RosewoodMap$Node;)Lcom/example/rosewood/rosewood/RosewoodMap$Node;" } : Jvm.MethodName) prog_7_method_51_code (4 : Nat) (Option.some (Jvm.ClassFile.FieldType.object "com/example/rosewood/rosewood/RosewoodMap$Node")), Jvm.Cond.code ({ cls := "com/example/rosewood/rosewood/RosewoodMap$Node", name := "<init>", desc := "(Ljava/lang/Object;Ljava/lang/Object;Lcom/example/rosewood/rosewood/RosewoodMap$Node;)V" } : Jvm.MethodName) prog_8_method_1_code (4 : Nat) (Option.none : Option Jvm.ClassFile.FieldType), Jvm.Cond.code ({ cls := "com/example/rosewood/rosewood/RosewoodMap", name := "setRed", desc := "(Lcom/example/rosewood/rosewood/RosewoodMap$Node;Z)V" } : Jvm.MethodName) prog_7_method_82_code (2 : Nat) (Option.none : Option Jvm.ClassFile.FieldType), Jvm.Cond.code ({ cls := "com/example/rosewood/rosewood/RosewoodMap", name := "keyOf", desc := "(Lcom/example/rosewood/rosewood/RosewoodMap$Node;)Ljava/lang/Object;" } : Jvm.MethodName) prog_7_method_76_code (1 : Nat) (Option.some (Jvm.ClassFile.FieldType.object "java/lang/Object")), Jvm.Cond.code ({ cls := "com/example/rosewood/rosewood/RosewoodMap", name := "refreshToRoot", desc := "(Lcom/example/rosewood/rosewood/RosewoodMap$Node;)V" } : Jvm.MethodName) prog_7_method_55_code (2 : Nat) (Option.none : Option Jvm.ClassFile.FieldType), Jvm.Cond.code ({ cls := "com/example/rosewood/rosewood/RosewoodMap", name := "balanceAfterInsert", desc := "(Lcom/example/rosewood/rosewood/RosewoodMap$Node;)V" } : Jvm.MethodName) prog_7_method_90_code (6 : Nat) (Option.none : Option Jvm.ClassFile.FieldType), Jvm.Cond.code ({ cls := "com/example/rosewood/rosewood/RosewoodMap", name := "isRed", desc := "(Lcom/example/rosewood/rosewood/RosewoodMap$Node;)Z" } : Jvm.MethodName) prog_7_method_81_code (1 : Nat) (Option.some Jvm.ClassFile.FieldType.boolean), Jvm.Cond.code ({ cls := "com/example/rosewood/rosewood/RosewoodMap", name := "rotateLeft", desc := "(Lcom/example/rosewood/rosewood/RosewoodMap$Node;)V" } : Jvm.MethodName) prog_7_method_88_code (3 : Nat) (Option.none : Option Jvm.ClassFile.FieldType), Jvm.Cond.code ({ cls := "com/example/rosewood/rosewood/RosewoodMap", name := "replaceInParent", desc := "(Lcom/example/rosewood/rosewood/RosewoodMap$Node;Lcom/example/rosewood/rosewood/RosewoodMap$Node;)V" } : Jvm.MethodName) prog_7_method_87_code (4 : Nat) (Option.none : Option Jvm.ClassFile.FieldType), Jvm.Cond.code ({ cls := "com/example/rosewood/rosewood/RosewoodMap", name := "leftCount", desc := "(Lcom/example/rosewood/rosewood/RosewoodMap$Node;)I" } : Jvm.MethodName) prog_7_method_83_code (1 : Nat) (Option.some Jvm.ClassFile.FieldType.int), Jvm.Cond.code ({ cls := "com/example/rosewood/rosewood/RosewoodMap", name := "addToLeftCount", desc := "(Lcom/example/rosewood/rosewood/RosewoodMap$Node;I)V" } : Jvm.MethodName) prog_7_method_84_code (2 : Nat) (Option.none : Option Jvm.ClassFile.FieldType), Jvm.Cond.code ({ cls := "com/example/rosewood/rosewood/RosewoodMap", name := "refresh", desc := "(Lcom/example/rosewood/rosewood/RosewoodMap$Node;)V" } : Jvm.MethodName) prog_7_method_54_code (2 : Nat) (Option.none : Option Jvm.ClassFile.FieldType), Jvm.Cond.code ({ cls := "com/example/rosewood/rosewood/RosewoodMap", name := "leftmost", desc := "(Lcom/example/rosewood/rosewood/RosewoodMap$Node;)Lcom/example/rosewood/rosewood/RosewoodMap$Node;" } : Jvm.MethodName) prog_7_method_77_code (2 : Nat) (Option.some (Jvm.ClassFile.FieldType.object "com/example/rosewood/rosewood/RosewoodMap$Node")), Jvm.Cond.code ({ cls := "java/lang/Integer", name := "intValue", desc := "()I" } : Jvm.MethodName) jdk_33_method_27_code (1 : Nat) (Option.some Jvm.ClassFile.FieldType.int), Jvm.Cond.code ({ cls := "java/lang/Integer", name := "<init>", desc := "(I)V" } : Jvm.MethodName) jdk_33_method_23_code (2 : Nat) (Option.none : Option Jvm.ClassFile.FieldType), Jvm.Cond.code ({ cls := "java/lang/Number", name := "<init>", desc := "()V" } : Jvm.MethodName) jdk_18_method_1_code (1 : Nat) (Option.none : Option Jvm.ClassFile.FieldType), Jvm.Cond.code ({ cls := "com/example/rosewood/rosewood/RosewoodMap", name := "countPlace", desc := "(Lcom/example/rosewood/rosewood/RosewoodMap$Node;II)V" } : Jvm.MethodName) prog_7_method_86_code (3 : Nat) (Option.none : Option Jvm.ClassFile.FieldType), Jvm.Cond.code ({ cls := "com/example/rosewood/rosewood/RosewoodMap", name := "countAbove", desc := "(Lcom/example/rosewood/rosewood/RosewoodMap$Node;I)V" } : Jvm.MethodName) prog_7_method_85_code (4 : Nat) (Option.none : Option Jvm.ClassFile.FieldType), Jvm.Cond.code ({ cls := "com/example/rosewood/rosewood/RosewoodMap", name := "replaceValue", desc := "(Lcom/example/rosewood/rosewood/RosewoodMap$Node;Ljava/lang/Object;)Ljava/lang/Object;" } : Jvm.MethodName) prog_7_method_52_code (3 : Nat) (Option.some (Jvm.ClassFile.FieldType.object "java/lang/Object")), Jvm.Cond.code ({ cls := "com/example/rosewood/rosewood/RosewoodMap$Node", name := "setValue", desc := "(Ljava/lang/Object;)Ljava/lang/Object;" } : Jvm.MethodName) prog_8_method_4_code (3 : Nat) (Option.some (Jvm.ClassFile.FieldType.object "java/lang/Object")), Jvm.Cond.code ({ cls := "com/example/rosewood/rosewood/RosewoodMap", name := "rotateRight", desc := "(Lcom/example/rosewood/rosewood/RosewoodMap$Node;)V" } : Jvm.MethodName) prog_7_method_89_code (3 : Nat) (Option.none : Option Jvm.ClassFile.FieldType)]
set_option maxRecDepth 65536 in
theorem codes_eq : words1.filter isCode = codes1 := rfl
theorem w_codes : ∀ c ∈ words1.filter isCode, c.before args0 about1 = true := by
  rw [codes_eq]
  intro c hc
  simp only [codes1, List.mem_cons, List.not_mem_nil, or_false] at hc
  rcases hc with rfl | rfl | rfl | rfl | rfl | rfl | rfl | rfl | rfl | rfl | rfl | rfl | rfl | rfl | rfl | rfl | rfl | rfl | rfl | rfl | rfl | rfl | rfl | rfl | rfl | rfl | rfl | rfl | rfl | rfl | rfl | rfl | rfl
  · exact w_c0
  · exact w_c1
  · exact w_c2
  · exact w_c3
  · exact w_c4
  · exact w_c5
  · exact w_c6
  · exact w_c7
  · exact w_c8
  · exact w_c9
  · exact w_c10
  · exact w_c11
  · exact w_c12
  · exact w_c13
  · exact w_c14
  · exact w_c15
  · exact w_c16
  · exact w_c17
  · exact w_c18
  · exact w_c19
  · exact w_c20
  · exact w_c21
  · exact w_c22
  · exact w_c23
  · exact w_c24
  · exact w_c25
  · exact w_c26
  · exact w_c27
  · exact w_c28
  · exact w_c29
  · exact w_c30
  · exact w_c31
  · exact w_c32
set_option maxRecDepth 65536 in
theorem w_t1 : (words1.take 24).all (fun c => isCode c || c.before args0 about1) = true := by decide +kernel
set_option maxRecDepth 65536 in
theorem w_t2 : ((words1.drop 24).take 24).all (fun c => isCode c || c.before args0 about1) = true := by decide +kernel
set_option maxRecDepth 65536 in
theorem w_t3 : (((words1.drop 24).drop 24).take 24).all (fun c => isCode c || c.before args0 about1) = true := by decide +kernel
set_option maxRecDepth 65536 in
theorem w_t4 : ((((words1.drop 24).drop 24).drop 24).take 24).all (fun c => isCode c || c.before args0 about1) = true := by decide +kernel
set_option maxRecDepth 65536 in
theorem w_t5 : (((((words1.drop 24).drop 24).drop 24).drop 24).take 24).all (fun c => isCode c || c.before args0 about1) = true := by decide +kernel
set_option maxRecDepth 65536 in
theorem w_t6 : ((((((words1.drop 24).drop 24).drop 24).drop 24).drop 24).take 24).all (fun c => isCode c || c.before args0 about1) = true := by decide +kernel
set_option maxRecDepth 65536 in
theorem w_t7 : (((((((words1.drop 24).drop 24).drop 24).drop 24).drop 24).drop 24).take 24).all (fun c => isCode c || c.before args0 about1) = true := by decide +kernel
set_option maxRecDepth 65536 in
theorem w_t8 : (((((((words1.drop 24).drop 24).drop 24).drop 24).drop 24).drop 24).drop 24).all (fun c => isCode c || c.before args0 about1) = true := by decide +kernel
theorem w_tables : (allAtoms (Jvm.Cond.code x code maxLocals ret :: tables_1)).before args0 about1 = true := by
  rw [allAtoms_all]
  show words1.all (fun c => c.before args0 about1) = true
  refine all_split ?_ w_codes
  rw [← List.take_append_drop 24 words1, List.all_append, w_t1, ← List.take_append_drop 24 (words1.drop 24), List.all_append, w_t2, ← List.take_append_drop 24 ((words1.drop 24).drop 24), List.all_append, w_t3, ← List.take_append_drop 24 (((words1.drop 24).drop 24).drop 24), List.all_append, w_t4, ← List.take_append_drop 24 ((((words1.drop 24).drop 24).drop 24).drop 24), List.all_append, w_t5, ← List.take_append_drop 24 (((((words1.drop 24).drop 24).drop 24).drop 24).drop 24), List.all_append, w_t6, ← List.take_append_drop 24 ((((((words1.drop 24).drop 24).drop 24).drop 24).drop 24).drop 24), List.all_append, w_t7, w_t8]
  rfl
set_option maxRecDepth 65536 in
theorem w_rest : rest_1_c.before args0 about1 = true := by decide +kernel
set_option maxRecDepth 65536 in
theorem w_case : (Jvm.Cond.and given_1 narrow_1).before args0 about1 = true := by decide +kernel
theorem w_applies : (headSpec (Jvm.Cond.code x code maxLocals ret :: tables_1) room_1).applies x e0.platform about1 = true :=
  (Spec.applies_iff w_frames).mpr ⟨w_running, w_runnable, w_alone, w_named, w_hears, w_ripe, w_room, w_tables⟩
theorem atStart : AtStart classFile x code maxLocals ret World_1 tables_1 room_1 Calls_1 rest_1 Pre_1 launch0 p0 e0 about1 theMethod args0 below0 :=
  ⟨lists_1, trivial, launch0.admits_env _ _ _, launch0.least_env, fairChoices_fair.cas, fairChoices_fair.clock, w_frames, w_args, w_heap, w_applies, trivial, w_rest, w_case⟩
end start1
theorem witness_1 : WitnessClaimed_1 := ⟨start1.p0, start1.e0, start1.about1, start1.theMethod, start1.args0, start1.below0, start1.atStart⟩
end Jvm.Pilot.@@N@@
