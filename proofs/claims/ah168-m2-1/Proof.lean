import JvmDerived
import JvmDerived.Pilot.@@N@@Statement
import JvmDerived.Pilot.@@N@@Code
set_option linter.unusedVariables false
set_option linter.unusedSimpArgs false
namespace Jvm.RoadKit
open Sem ClassFile Op Lib Jvm.Stand Jvm.Free Jvm.LawKit
section New
variable {p : Program} {l : Launch} {e : Env} {R : Room} {s : State} {m : MethodId} {args : Array Value} {below : List Frame} {meth : Method} {c : Code} {T : State} {locs : List Loc} {cells slots : Nat}
theorem retI (X : Stand p l e R s m args below meth c T locs cells slots) (hx : p.tables.exec = Jvm.exec) {pc : Nat} {Ls : Array Slot} {z : Int32} {rest : List Value} (hret : meth.sig.returnType = some .int) (hd : decode c.code pc = .ok (.ireturn, 1)) {fs : List Frame}
    (hl : ∀ (f : JFrame) (acts : List Action), f.method = m → f.locked = none → f.entered = [] → (doReturn e (T.setTop f) acts (some (.int z))).1 = T.setFrames fs) : Steps p.tables e below (T.setTop (mkF m pc Ls (.int z :: rest))) (T.setFrames fs) := by
  have hm' : T.vm.method? m = some meth := X.method'
  have hn : narrow .int (.int z) = .int z := rfl
  show Steps p.tables e below (T.setTop { method := m, pc := pc, locals := Ls, stack := _ :: rest, locked := none }) _
  jvm_step X.here [X.here.top, hx, hd, hm', hret, hn]
  first | (intro acts; rw [hl _ acts rfl rfl rfl]) | rw [hl _ _ rfl rfl rfl]
  exact Steps.refl _
end New
end Jvm.RoadKit
namespace Jvm.Pilot.@@N@@
open Jvm Jvm.ClassFile Sem Op Lib Jvm.Free Jvm.Stand Jvm.LawKit Jvm.RoadKit Bundle Jvm.Pilot.@@N@@.Jvm.D
theorem Wd0 {Z : State} {a0 : Array Value} (hw : ∀ d ∈ tables_1, d.before a0 Z = true) : (Jvm.Cond.arrayClass Jvm.ClassFile.FieldType.int).before a0 Z = true := hw _ (List.mem_of_getElem? (i := 0) rfl)
theorem Wd1 {Z : State} {a0 : Array Value} (hw : ∀ d ∈ tables_1, d.before a0 Z = true) : (Jvm.Cond.constantLong "com/example/vestline/vestline/BuilderLineOfPinLaw" (9 : Nat) (2 : Int64)).before a0 Z = true := hw _ (List.mem_of_getElem? (i := 1) rfl)
theorem Wd2 {Z : State} {a0 : Array Value} (hw : ∀ d ∈ tables_1, d.before a0 Z = true) : (Jvm.Cond.classLink "com/example/vestline/vestline/BuilderLineOfPinLaw" (11 : Nat) "com/example/vestline/vestline/HoursByPlanYear$Builder").before a0 Z = true := hw _ (List.mem_of_getElem? (i := 2) rfl)
theorem Wd3 {Z : State} {a0 : Array Value} (hw : ∀ d ∈ tables_1, d.before a0 Z = true) : (Jvm.Cond.instantiable "com/example/vestline/vestline/HoursByPlanYear$Builder" (7 : Nat)).before a0 Z = true := hw _ (List.mem_of_getElem? (i := 3) rfl)
theorem Wd4 {Z : State} {a0 : Array Value} (hw : ∀ d ∈ tables_1, d.before a0 Z = true) : (Jvm.Cond.initialized "com/example/vestline/vestline/HoursByPlanYear$Builder").before a0 Z = true := hw _ (List.mem_of_getElem? (i := 4) rfl)
theorem Wd5 {Z : State} {a0 : Array Value} (hw : ∀ d ∈ tables_1, d.before a0 Z = true) : (Jvm.Cond.classLink "com/example/vestline/vestline/BuilderLineOfPinLaw" (13 : Nat) "java/util/ArrayList").before a0 Z = true := hw _ (List.mem_of_getElem? (i := 5) rfl)
theorem Wd6 {Z : State} {a0 : Array Value} (hw : ∀ d ∈ tables_1, d.before a0 Z = true) : (Jvm.Cond.instantiable "java/util/ArrayList" (3 : Nat)).before a0 Z = true := hw _ (List.mem_of_getElem? (i := 6) rfl)
theorem Wd7 {Z : State} {a0 : Array Value} (hw : ∀ d ∈ tables_1, d.before a0 Z = true) : (Jvm.Cond.initialized "java/util/ArrayList").before a0 Z = true := hw _ (List.mem_of_getElem? (i := 7) rfl)
theorem Wd8 {Z : State} {a0 : Array Value} (hw : ∀ d ∈ tables_1, d.before a0 Z = true) : (Jvm.Cond.methodLink "com/example/vestline/vestline/BuilderLineOfPinLaw" (15 : Nat) ({ cls := "java/util/ArrayList", name := "<init>", desc := "()V" } : Jvm.MethodName)).before a0 Z = true := hw _ (List.mem_of_getElem? (i := 8) rfl)
theorem Wd9 {Z : State} {a0 : Array Value} (hw : ∀ d ∈ tables_1, d.before a0 Z = true) : (Jvm.Cond.instanceMethod ({ cls := "java/util/ArrayList", name := "<init>", desc := "()V" } : Jvm.MethodName)).before a0 Z = true := hw _ (List.mem_of_getElem? (i := 9) rfl)
theorem Wd10 {Z : State} {a0 : Array Value} (hw : ∀ d ∈ tables_1, d.before a0 Z = true) : (Jvm.Cond.code ({ cls := "java/util/ArrayList", name := "<init>", desc := "()V" } : Jvm.MethodName) jdk_38_method_2_code (1 : Nat) (Option.none : Option Jvm.ClassFile.FieldType)).before a0 Z = true := hw _ (List.mem_of_getElem? (i := 10) rfl)
theorem Wd11 {Z : State} {a0 : Array Value} (hw : ∀ d ∈ tables_1, d.before a0 Z = true) : (Jvm.Cond.methodLink "java/util/ArrayList" (1 : Nat) ({ cls := "java/util/AbstractList", name := "<init>", desc := "()V" } : Jvm.MethodName)).before a0 Z = true := hw _ (List.mem_of_getElem? (i := 11) rfl)
theorem Wd12 {Z : State} {a0 : Array Value} (hw : ∀ d ∈ tables_1, d.before a0 Z = true) : (Jvm.Cond.instanceMethod ({ cls := "java/util/AbstractList", name := "<init>", desc := "()V" } : Jvm.MethodName)).before a0 Z = true := hw _ (List.mem_of_getElem? (i := 12) rfl)
theorem Wd15 {Z : State} {a0 : Array Value} (hw : ∀ d ∈ tables_1, d.before a0 Z = true) : (Jvm.Cond.initialized "java/util/AbstractList").before a0 Z = true := hw _ (List.mem_of_getElem? (i := 15) rfl)
theorem Wd16 {Z : State} {a0 : Array Value} (hw : ∀ d ∈ tables_1, d.before a0 Z = true) : (Jvm.Cond.code ({ cls := "java/util/AbstractList", name := "<init>", desc := "()V" } : Jvm.MethodName) jdk_39_method_1_code (1 : Nat) (Option.none : Option Jvm.ClassFile.FieldType)).before a0 Z = true := hw _ (List.mem_of_getElem? (i := 16) rfl)
theorem Wd17 {Z : State} {a0 : Array Value} (hw : ∀ d ∈ tables_1, d.before a0 Z = true) : (Jvm.Cond.methodLink "java/util/AbstractList" (1 : Nat) ({ cls := "java/util/AbstractCollection", name := "<init>", desc := "()V" } : Jvm.MethodName)).before a0 Z = true := hw _ (List.mem_of_getElem? (i := 17) rfl)
theorem Wd18 {Z : State} {a0 : Array Value} (hw : ∀ d ∈ tables_1, d.before a0 Z = true) : (Jvm.Cond.instanceMethod ({ cls := "java/util/AbstractCollection", name := "<init>", desc := "()V" } : Jvm.MethodName)).before a0 Z = true := hw _ (List.mem_of_getElem? (i := 18) rfl)
theorem Wd21 {Z : State} {a0 : Array Value} (hw : ∀ d ∈ tables_1, d.before a0 Z = true) : (Jvm.Cond.initialized "java/util/AbstractCollection").before a0 Z = true := hw _ (List.mem_of_getElem? (i := 21) rfl)
theorem Wd22 {Z : State} {a0 : Array Value} (hw : ∀ d ∈ tables_1, d.before a0 Z = true) : (Jvm.Cond.code ({ cls := "java/util/AbstractCollection", name := "<init>", desc := "()V" } : Jvm.MethodName) jdk_22_method_1_code (1 : Nat) (Option.none : Option Jvm.ClassFile.FieldType)).before a0 Z = true := hw _ (List.mem_of_getElem? (i := 22) rfl)
theorem Wd23 {Z : State} {a0 : Array Value} (hw : ∀ d ∈ tables_1, d.before a0 Z = true) : (Jvm.Cond.methodLink "java/util/AbstractCollection" (1 : Nat) ({ cls := "java/lang/Object", name := "<init>", desc := "()V" } : Jvm.MethodName)).before a0 Z = true := hw _ (List.mem_of_getElem? (i := 23) rfl)
theorem Wd24 {Z : State} {a0 : Array Value} (hw : ∀ d ∈ tables_1, d.before a0 Z = true) : (Jvm.Cond.instanceMethod ({ cls := "java/lang/Object", name := "<init>", desc := "()V" } : Jvm.MethodName)).before a0 Z = true := hw _ (List.mem_of_getElem? (i := 24) rfl)
theorem Wd25 {Z : State} {a0 : Array Value} (hw : ∀ d ∈ tables_1, d.before a0 Z = true) : (Jvm.Cond.code ({ cls := "java/lang/Object", name := "<init>", desc := "()V" } : Jvm.MethodName) object_method_1_code (1 : Nat) (Option.none : Option Jvm.ClassFile.FieldType)).before a0 Z = true := hw _ (List.mem_of_getElem? (i := 25) rfl)
theorem Wd26 {Z : State} {a0 : Array Value} (hw : ∀ d ∈ tables_1, d.before a0 Z = true) : (Jvm.Cond.fieldLink "java/util/AbstractList" (7 : Nat) "java/util/AbstractList" "modCount" "I").before a0 Z = true := hw _ (List.mem_of_getElem? (i := 26) rfl)
theorem Wd27 {Z : State} {a0 : Array Value} (hw : ∀ d ∈ tables_1, d.before a0 Z = true) : (Jvm.Cond.lays "java/util/ArrayList" "java/util/AbstractList" "modCount" "I").before a0 Z = true := hw _ (List.mem_of_getElem? (i := 27) rfl)
theorem Wd28 {Z : State} {a0 : Array Value} (hw : ∀ d ∈ tables_1, d.before a0 Z = true) : (Jvm.Cond.fieldLink "java/util/ArrayList" (39 : Nat) "java/util/ArrayList" "DEFAULTCAPACITY_EMPTY_ELEMENTDATA" "[Ljava/lang/Object;").before a0 Z = true := hw _ (List.mem_of_getElem? (i := 28) rfl)
theorem Wd29 {Z : State} {a0 : Array Value} (hw : ∀ d ∈ tables_1, d.before a0 Z = true) : (Jvm.Cond.fieldLink "java/util/ArrayList" (9 : Nat) "java/util/ArrayList" "elementData" "[Ljava/lang/Object;").before a0 Z = true := hw _ (List.mem_of_getElem? (i := 29) rfl)
theorem Wd30 {Z : State} {a0 : Array Value} (hw : ∀ d ∈ tables_1, d.before a0 Z = true) : (Jvm.Cond.lays "java/util/ArrayList" "java/util/ArrayList" "elementData" "[Ljava/lang/Object;").before a0 Z = true := hw _ (List.mem_of_getElem? (i := 30) rfl)
theorem Wd31 {Z : State} {a0 : Array Value} (hw : ∀ d ∈ tables_1, d.before a0 Z = true) : (Jvm.Cond.methodLink "com/example/vestline/vestline/BuilderLineOfPinLaw" (16 : Nat) ({ cls := "com/example/vestline/vestline/HoursByPlanYear$Builder", name := "<init>", desc := "(Ljava/util/List;)V" } : Jvm.MethodName)).before a0 Z = true := hw _ (List.mem_of_getElem? (i := 31) rfl)
theorem Wd32 {Z : State} {a0 : Array Value} (hw : ∀ d ∈ tables_1, d.before a0 Z = true) : (Jvm.Cond.instanceMethod ({ cls := "com/example/vestline/vestline/HoursByPlanYear$Builder", name := "<init>", desc := "(Ljava/util/List;)V" } : Jvm.MethodName)).before a0 Z = true := hw _ (List.mem_of_getElem? (i := 32) rfl)
theorem Wd33 {Z : State} {a0 : Array Value} (hw : ∀ d ∈ tables_1, d.before a0 Z = true) : (Jvm.Cond.code ({ cls := "com/example/vestline/vestline/HoursByPlanYear$Builder", name := "<init>", desc := "(Ljava/util/List;)V" } : Jvm.MethodName) prog_14_method_1_code (2 : Nat) (Option.none : Option Jvm.ClassFile.FieldType)).before a0 Z = true := hw _ (List.mem_of_getElem? (i := 33) rfl)
theorem Wd34 {Z : State} {a0 : Array Value} (hw : ∀ d ∈ tables_1, d.before a0 Z = true) : (Jvm.Cond.methodLink "com/example/vestline/vestline/HoursByPlanYear$Builder" (3 : Nat) ({ cls := "java/lang/Object", name := "<init>", desc := "()V" } : Jvm.MethodName)).before a0 Z = true := hw _ (List.mem_of_getElem? (i := 34) rfl)
theorem Wd35 {Z : State} {a0 : Array Value} (hw : ∀ d ∈ tables_1, d.before a0 Z = true) : (Jvm.Cond.fieldLink "com/example/vestline/vestline/HoursByPlanYear$Builder" (11 : Nat) "com/example/vestline/vestline/HoursByPlanYear$Builder" "years" "[I").before a0 Z = true := hw _ (List.mem_of_getElem? (i := 35) rfl)
theorem Wd36 {Z : State} {a0 : Array Value} (hw : ∀ d ∈ tables_1, d.before a0 Z = true) : (Jvm.Cond.lays "com/example/vestline/vestline/HoursByPlanYear$Builder" "com/example/vestline/vestline/HoursByPlanYear$Builder" "years" "[I").before a0 Z = true := hw _ (List.mem_of_getElem? (i := 36) rfl)
theorem Wd37 {Z : State} {a0 : Array Value} (hw : ∀ d ∈ tables_1, d.before a0 Z = true) : (Jvm.Cond.classLink "com/example/vestline/vestline/HoursByPlanYear$Builder" (15 : Nat) "java/math/BigDecimal").before a0 Z = true := hw _ (List.mem_of_getElem? (i := 37) rfl)
theorem Wd38 {Z : State} {a0 : Array Value} (hw : ∀ d ∈ tables_1, d.before a0 Z = true) : (Jvm.Cond.arrayOver (Jvm.ClassFile.FieldType.object "java/math/BigDecimal")).before a0 Z = true := hw _ (List.mem_of_getElem? (i := 38) rfl)
theorem Wd39 {Z : State} {a0 : Array Value} (hw : ∀ d ∈ tables_1, d.before a0 Z = true) : (Jvm.Cond.fieldLink "com/example/vestline/vestline/HoursByPlanYear$Builder" (17 : Nat) "com/example/vestline/vestline/HoursByPlanYear$Builder" "hours" "[Ljava/math/BigDecimal;").before a0 Z = true := hw _ (List.mem_of_getElem? (i := 39) rfl)
theorem Wd40 {Z : State} {a0 : Array Value} (hw : ∀ d ∈ tables_1, d.before a0 Z = true) : (Jvm.Cond.lays "com/example/vestline/vestline/HoursByPlanYear$Builder" "com/example/vestline/vestline/HoursByPlanYear$Builder" "hours" "[Ljava/math/BigDecimal;").before a0 Z = true := hw _ (List.mem_of_getElem? (i := 40) rfl)
theorem Wd41 {Z : State} {a0 : Array Value} (hw : ∀ d ∈ tables_1, d.before a0 Z = true) : (Jvm.Cond.fieldLink "com/example/vestline/vestline/HoursByPlanYear$Builder" (21 : Nat) "com/example/vestline/vestline/HoursByPlanYear$Builder" "columns" "Ljava/util/List;").before a0 Z = true := hw _ (List.mem_of_getElem? (i := 41) rfl)
theorem Wd42 {Z : State} {a0 : Array Value} (hw : ∀ d ∈ tables_1, d.before a0 Z = true) : (Jvm.Cond.laysFinal "com/example/vestline/vestline/HoursByPlanYear$Builder" "com/example/vestline/vestline/HoursByPlanYear$Builder" "columns" "Ljava/util/List;").before a0 Z = true := hw _ (List.mem_of_getElem? (i := 42) rfl)
theorem Wd43 {Z : State} {a0 : Array Value} (hw : ∀ d ∈ tables_1, d.before a0 Z = true) : (Jvm.Cond.methodLink "com/example/vestline/vestline/HoursByPlanYear$Builder" (25 : Nat) ({ cls := "java/util/List", name := "size", desc := "()I" } : Jvm.MethodName)).before a0 Z = true := hw _ (List.mem_of_getElem? (i := 43) rfl)
theorem Wd44 {Z : State} {a0 : Array Value} (hw : ∀ d ∈ tables_1, d.before a0 Z = true) : (Jvm.Cond.declares ({ cls := "java/util/List", name := "size", desc := "()I" } : Jvm.MethodName)).before a0 Z = true := hw _ (List.mem_of_getElem? (i := 44) rfl)
theorem Wd45 {Z : State} {a0 : Array Value} (hw : ∀ d ∈ tables_1, d.before a0 Z = true) : (Jvm.Cond.interfaceMethod "java/util/List" "java/util/List" "size" "()I").before a0 Z = true := hw _ (List.mem_of_getElem? (i := 45) rfl)
theorem Wd46 {Z : State} {a0 : Array Value} (hw : ∀ d ∈ tables_1, d.before a0 Z = true) : (Jvm.Cond.selects "java/util/ArrayList" ({ cls := "java/util/List", name := "size", desc := "()I" } : Jvm.MethodName) ({ cls := "java/util/ArrayList", name := "size", desc := "()I" } : Jvm.MethodName)).before a0 Z = true := hw _ (List.mem_of_getElem? (i := 46) rfl)
theorem Wd47 {Z : State} {a0 : Array Value} (hw : ∀ d ∈ tables_1, d.before a0 Z = true) : (Jvm.Cond.instanceMethod ({ cls := "java/util/ArrayList", name := "size", desc := "()I" } : Jvm.MethodName)).before a0 Z = true := hw _ (List.mem_of_getElem? (i := 47) rfl)
theorem Wd48 {Z : State} {a0 : Array Value} (hw : ∀ d ∈ tables_1, d.before a0 Z = true) : (Jvm.Cond.publicMethod ({ cls := "java/util/ArrayList", name := "size", desc := "()I" } : Jvm.MethodName)).before a0 Z = true := hw _ (List.mem_of_getElem? (i := 48) rfl)
theorem Wd49 {Z : State} {a0 : Array Value} (hw : ∀ d ∈ tables_1, d.before a0 Z = true) : (Jvm.Cond.unhidden "java/util/ArrayList" "size" "()I").before a0 Z = true := hw _ (List.mem_of_getElem? (i := 49) rfl)
theorem Wd50 {Z : State} {a0 : Array Value} (hw : ∀ d ∈ tables_1, d.before a0 Z = true) : (Jvm.Cond.castable "java/util/ArrayList" "java/util/List").before a0 Z = true := hw _ (List.mem_of_getElem? (i := 50) rfl)
theorem Wd51 {Z : State} {a0 : Array Value} (hw : ∀ d ∈ tables_1, d.before a0 Z = true) : (Jvm.Cond.code ({ cls := "java/util/ArrayList", name := "size", desc := "()I" } : Jvm.MethodName) jdk_38_method_8_code (1 : Nat) (Option.some Jvm.ClassFile.FieldType.int)).before a0 Z = true := hw _ (List.mem_of_getElem? (i := 51) rfl)
theorem Wd52 {Z : State} {a0 : Array Value} (hw : ∀ d ∈ tables_1, d.before a0 Z = true) : (Jvm.Cond.fieldLink "java/util/ArrayList" (48 : Nat) "java/util/ArrayList" "size" "I").before a0 Z = true := hw _ (List.mem_of_getElem? (i := 52) rfl)
theorem Wd53 {Z : State} {a0 : Array Value} (hw : ∀ d ∈ tables_1, d.before a0 Z = true) : (Jvm.Cond.lays "java/util/ArrayList" "java/util/ArrayList" "size" "I").before a0 Z = true := hw _ (List.mem_of_getElem? (i := 53) rfl)
theorem Wd54 {Z : State} {a0 : Array Value} (hw : ∀ d ∈ tables_1, d.before a0 Z = true) : (Jvm.Cond.classLink "com/example/vestline/vestline/HoursByPlanYear$Builder" (31 : Nat) "[[J").before a0 Z = true := hw _ (List.mem_of_getElem? (i := 54) rfl)
theorem Wd55 {Z : State} {a0 : Array Value} (hw : ∀ d ∈ tables_1, d.before a0 Z = true) : (Jvm.Cond.arrayOver (Jvm.ClassFile.FieldType.array Jvm.ClassFile.FieldType.long)).before a0 Z = true := hw _ (List.mem_of_getElem? (i := 55) rfl)
theorem Wd56 {Z : State} {a0 : Array Value} (hw : ∀ d ∈ tables_1, d.before a0 Z = true) : (Jvm.Cond.arrayClass Jvm.ClassFile.FieldType.long).before a0 Z = true := hw _ (List.mem_of_getElem? (i := 56) rfl)
theorem Wd57 {Z : State} {a0 : Array Value} (hw : ∀ d ∈ tables_1, d.before a0 Z = true) : (Jvm.Cond.fieldLink "com/example/vestline/vestline/HoursByPlanYear$Builder" (33 : Nat) "com/example/vestline/vestline/HoursByPlanYear$Builder" "numbers" "[[J").before a0 Z = true := hw _ (List.mem_of_getElem? (i := 57) rfl)
theorem Wd58 {Z : State} {a0 : Array Value} (hw : ∀ d ∈ tables_1, d.before a0 Z = true) : (Jvm.Cond.laysFinal "com/example/vestline/vestline/HoursByPlanYear$Builder" "com/example/vestline/vestline/HoursByPlanYear$Builder" "numbers" "[[J").before a0 Z = true := hw _ (List.mem_of_getElem? (i := 58) rfl)
theorem Wd59 {Z : State} {a0 : Array Value} (hw : ∀ d ∈ tables_1, d.before a0 Z = true) : (Jvm.Cond.methodLink "com/example/vestline/vestline/BuilderLineOfPinLaw" (19 : Nat) ({ cls := "com/example/vestline/vestline/HoursByPlanYear$Builder", name := "add", desc := "(ILjava/math/BigDecimal;Ljava/util/List;J)V" } : Jvm.MethodName)).before a0 Z = true := hw _ (List.mem_of_getElem? (i := 59) rfl)
theorem Wd60 {Z : State} {a0 : Array Value} (hw : ∀ d ∈ tables_1, d.before a0 Z = true) : (Jvm.Cond.declares ({ cls := "com/example/vestline/vestline/HoursByPlanYear$Builder", name := "add", desc := "(ILjava/math/BigDecimal;Ljava/util/List;J)V" } : Jvm.MethodName)).before a0 Z = true := hw _ (List.mem_of_getElem? (i := 60) rfl)
theorem Wd61 {Z : State} {a0 : Array Value} (hw : ∀ d ∈ tables_1, d.before a0 Z = true) : (Jvm.Cond.instanceMethod ({ cls := "com/example/vestline/vestline/HoursByPlanYear$Builder", name := "add", desc := "(ILjava/math/BigDecimal;Ljava/util/List;J)V" } : Jvm.MethodName)).before a0 Z = true := hw _ (List.mem_of_getElem? (i := 61) rfl)
theorem Wd62 {Z : State} {a0 : Array Value} (hw : ∀ d ∈ tables_1, d.before a0 Z = true) : (Jvm.Cond.selects "com/example/vestline/vestline/HoursByPlanYear$Builder" ({ cls := "com/example/vestline/vestline/HoursByPlanYear$Builder", name := "add", desc := "(ILjava/math/BigDecimal;Ljava/util/List;J)V" } : Jvm.MethodName) ({ cls := "com/example/vestline/vestline/HoursByPlanYear$Builder", name := "add", desc := "(ILjava/math/BigDecimal;Ljava/util/List;J)V" } : Jvm.MethodName)).before a0 Z = true := hw _ (List.mem_of_getElem? (i := 62) rfl)
theorem Wd63 {Z : State} {a0 : Array Value} (hw : ∀ d ∈ tables_1, d.before a0 Z = true) : (Jvm.Cond.code ({ cls := "com/example/vestline/vestline/HoursByPlanYear$Builder", name := "add", desc := "(ILjava/math/BigDecimal;Ljava/util/List;J)V" } : Jvm.MethodName) prog_14_method_3_code (9 : Nat) (Option.none : Option Jvm.ClassFile.FieldType)).before a0 Z = true := hw _ (List.mem_of_getElem? (i := 63) rfl)
theorem Wd64 {Z : State} {a0 : Array Value} (hw : ∀ d ∈ tables_1, d.before a0 Z = true) : (Jvm.Cond.fieldLink "com/example/vestline/vestline/HoursByPlanYear$Builder" (36 : Nat) "com/example/vestline/vestline/HoursByPlanYear$Builder" "size" "I").before a0 Z = true := hw _ (List.mem_of_getElem? (i := 64) rfl)
theorem Wd65 {Z : State} {a0 : Array Value} (hw : ∀ d ∈ tables_1, d.before a0 Z = true) : (Jvm.Cond.lays "com/example/vestline/vestline/HoursByPlanYear$Builder" "com/example/vestline/vestline/HoursByPlanYear$Builder" "size" "I").before a0 Z = true := hw _ (List.mem_of_getElem? (i := 65) rfl)
theorem Wd66 {Z : State} {a0 : Array Value} (hw : ∀ d ∈ tables_1, d.before a0 Z = true) : (Jvm.Cond.fieldLink "com/example/vestline/vestline/HoursByPlanYear$Builder" (54 : Nat) "com/example/vestline/vestline/HoursByPlanYear$Builder" "firstLine" "J").before a0 Z = true := hw _ (List.mem_of_getElem? (i := 66) rfl)
theorem Wd67 {Z : State} {a0 : Array Value} (hw : ∀ d ∈ tables_1, d.before a0 Z = true) : (Jvm.Cond.lays "com/example/vestline/vestline/HoursByPlanYear$Builder" "com/example/vestline/vestline/HoursByPlanYear$Builder" "firstLine" "J").before a0 Z = true := hw _ (List.mem_of_getElem? (i := 67) rfl)
theorem Wd68 {Z : State} {a0 : Array Value} (hw : ∀ d ∈ tables_1, d.before a0 Z = true) : (Jvm.Cond.methodLink "com/example/vestline/vestline/HoursByPlanYear$Builder" (73 : Nat) ({ cls := "java/lang/System", name := "arraycopy", desc := "(Ljava/lang/Object;ILjava/lang/Object;II)V" } : Jvm.MethodName)).before a0 Z = true := hw _ (List.mem_of_getElem? (i := 68) rfl)
theorem Wd69 {Z : State} {a0 : Array Value} (hw : ∀ d ∈ tables_1, d.before a0 Z = true) : (Jvm.Cond.static ({ cls := "java/lang/System", name := "arraycopy", desc := "(Ljava/lang/Object;ILjava/lang/Object;II)V" } : Jvm.MethodName)).before a0 Z = true := hw _ (List.mem_of_getElem? (i := 69) rfl)
theorem Wd70 {Z : State} {a0 : Array Value} (hw : ∀ d ∈ tables_1, d.before a0 Z = true) : (Jvm.Cond.initialized "java/lang/System").before a0 Z = true := hw _ (List.mem_of_getElem? (i := 70) rfl)
theorem Wd71 {Z : State} {a0 : Array Value} (hw : ∀ d ∈ tables_1, d.before a0 Z = true) : (Jvm.Cond.native ({ cls := "java/lang/System", name := "arraycopy", desc := "(Ljava/lang/Object;ILjava/lang/Object;II)V" } : Jvm.MethodName)).before a0 Z = true := hw _ (List.mem_of_getElem? (i := 71) rfl)
theorem Wd72 {Z : State} {a0 : Array Value} (hw : ∀ d ∈ tables_1, d.before a0 Z = true) : (Jvm.Cond.fieldLink "com/example/vestline/vestline/HoursByPlanYear$Builder" (58 : Nat) "com/example/vestline/vestline/HoursByPlanYear$Builder" "lines" "[J").before a0 Z = true := hw _ (List.mem_of_getElem? (i := 72) rfl)
theorem Wd73 {Z : State} {a0 : Array Value} (hw : ∀ d ∈ tables_1, d.before a0 Z = true) : (Jvm.Cond.lays "com/example/vestline/vestline/HoursByPlanYear$Builder" "com/example/vestline/vestline/HoursByPlanYear$Builder" "lines" "[J").before a0 Z = true := hw _ (List.mem_of_getElem? (i := 73) rfl)
theorem Wd74 {Z : State} {a0 : Array Value} (hw : ∀ d ∈ tables_1, d.before a0 Z = true) : (Jvm.Cond.methodLink "com/example/vestline/vestline/BuilderLineOfPinLaw" (23 : Nat) ({ cls := "com/example/vestline/vestline/HoursByPlanYear$Builder", name := "lineOf", desc := "(I)J" } : Jvm.MethodName)).before a0 Z = true := hw _ (List.mem_of_getElem? (i := 74) rfl)
theorem Wd75 {Z : State} {a0 : Array Value} (hw : ∀ d ∈ tables_1, d.before a0 Z = true) : (Jvm.Cond.declares ({ cls := "com/example/vestline/vestline/HoursByPlanYear$Builder", name := "lineOf", desc := "(I)J" } : Jvm.MethodName)).before a0 Z = true := hw _ (List.mem_of_getElem? (i := 75) rfl)
theorem Wd76 {Z : State} {a0 : Array Value} (hw : ∀ d ∈ tables_1, d.before a0 Z = true) : (Jvm.Cond.instanceMethod ({ cls := "com/example/vestline/vestline/HoursByPlanYear$Builder", name := "lineOf", desc := "(I)J" } : Jvm.MethodName)).before a0 Z = true := hw _ (List.mem_of_getElem? (i := 76) rfl)
theorem Wd77 {Z : State} {a0 : Array Value} (hw : ∀ d ∈ tables_1, d.before a0 Z = true) : (Jvm.Cond.selects "com/example/vestline/vestline/HoursByPlanYear$Builder" ({ cls := "com/example/vestline/vestline/HoursByPlanYear$Builder", name := "lineOf", desc := "(I)J" } : Jvm.MethodName) ({ cls := "com/example/vestline/vestline/HoursByPlanYear$Builder", name := "lineOf", desc := "(I)J" } : Jvm.MethodName)).before a0 Z = true := hw _ (List.mem_of_getElem? (i := 77) rfl)
theorem Wd78 {Z : State} {a0 : Array Value} (hw : ∀ d ∈ tables_1, d.before a0 Z = true) : (Jvm.Cond.code ({ cls := "com/example/vestline/vestline/HoursByPlanYear$Builder", name := "lineOf", desc := "(I)J" } : Jvm.MethodName) prog_14_method_4_code (5 : Nat) (Option.some Jvm.ClassFile.FieldType.long)).before a0 Z = true := hw _ (List.mem_of_getElem? (i := 78) rfl)
theorem Wd79 {Z : State} {a0 : Array Value} (hw : ∀ d ∈ tables_1, d.before a0 Z = true) : (Jvm.Cond.methodLink "com/example/vestline/vestline/HoursByPlanYear$Builder" (39 : Nat) ({ cls := "java/util/Arrays", name := "binarySearch", desc := "([IIII)I" } : Jvm.MethodName)).before a0 Z = true := hw _ (List.mem_of_getElem? (i := 79) rfl)
theorem Wd80 {Z : State} {a0 : Array Value} (hw : ∀ d ∈ tables_1, d.before a0 Z = true) : (Jvm.Cond.static ({ cls := "java/util/Arrays", name := "binarySearch", desc := "([IIII)I" } : Jvm.MethodName)).before a0 Z = true := hw _ (List.mem_of_getElem? (i := 80) rfl)
theorem Wd81 {Z : State} {a0 : Array Value} (hw : ∀ d ∈ tables_1, d.before a0 Z = true) : (Jvm.Cond.initialized "java/util/Arrays").before a0 Z = true := hw _ (List.mem_of_getElem? (i := 81) rfl)
theorem Wd82 {Z : State} {a0 : Array Value} (hw : ∀ d ∈ tables_1, d.before a0 Z = true) : (Jvm.Cond.code ({ cls := "java/util/Arrays", name := "binarySearch", desc := "([IIII)I" } : Jvm.MethodName) jdk_65_method_58_code (4 : Nat) (Option.some Jvm.ClassFile.FieldType.int)).before a0 Z = true := hw _ (List.mem_of_getElem? (i := 82) rfl)
theorem Wd83 {Z : State} {a0 : Array Value} (hw : ∀ d ∈ tables_1, d.before a0 Z = true) : (Jvm.Cond.methodLink "java/util/Arrays" (13 : Nat) ({ cls := "java/util/Arrays", name := "rangeCheck", desc := "(III)V" } : Jvm.MethodName)).before a0 Z = true := hw _ (List.mem_of_getElem? (i := 83) rfl)
theorem Wd84 {Z : State} {a0 : Array Value} (hw : ∀ d ∈ tables_1, d.before a0 Z = true) : (Jvm.Cond.static ({ cls := "java/util/Arrays", name := "rangeCheck", desc := "(III)V" } : Jvm.MethodName)).before a0 Z = true := hw _ (List.mem_of_getElem? (i := 84) rfl)
theorem Wd85 {Z : State} {a0 : Array Value} (hw : ∀ d ∈ tables_1, d.before a0 Z = true) : (Jvm.Cond.code ({ cls := "java/util/Arrays", name := "rangeCheck", desc := "(III)V" } : Jvm.MethodName) jdk_65_method_30_code (3 : Nat) (Option.none : Option Jvm.ClassFile.FieldType)).before a0 Z = true := hw _ (List.mem_of_getElem? (i := 85) rfl)
theorem Wd86 {Z : State} {a0 : Array Value} (hw : ∀ d ∈ tables_1, d.before a0 Z = true) : (Jvm.Cond.methodLink "java/util/Arrays" (209 : Nat) ({ cls := "java/util/Arrays", name := "binarySearch0", desc := "([IIII)I" } : Jvm.MethodName)).before a0 Z = true := hw _ (List.mem_of_getElem? (i := 86) rfl)
theorem Wd87 {Z : State} {a0 : Array Value} (hw : ∀ d ∈ tables_1, d.before a0 Z = true) : (Jvm.Cond.static ({ cls := "java/util/Arrays", name := "binarySearch0", desc := "([IIII)I" } : Jvm.MethodName)).before a0 Z = true := hw _ (List.mem_of_getElem? (i := 87) rfl)
theorem Wd88 {Z : State} {a0 : Array Value} (hw : ∀ d ∈ tables_1, d.before a0 Z = true) : (Jvm.Cond.code ({ cls := "java/util/Arrays", name := "binarySearch0", desc := "([IIII)I" } : Jvm.MethodName) jdk_65_method_59_code (8 : Nat) (Option.some Jvm.ClassFile.FieldType.int)).before a0 Z = true := hw _ (List.mem_of_getElem? (i := 88) rfl)
theorem Wd89 {Z : State} {a0 : Array Value} (hw : ∀ d ∈ tables_1, d.before a0 Z = true) : (Jvm.Cond.constantLong "com/example/vestline/vestline/BuilderLineOfPinLaw" (7 : Nat) (-1 : Int64)).before a0 Z = true := hw _ (List.mem_of_getElem? (i := 89) rfl)
/-- the run comes from A to a state with P -/
def ownG (tb : Tables) (e : Env) (below : List Frame) (P : State → Prop) (A : State) : Prop := ∃ t, Steps tb e below A t ∧ P t
theorem ownBy {tb : Tables} {e : Env} {below : List Frame} {P : State → Prop} {A B : State} (st : ∀ t, Steps tb e below A t → Steps tb e below B t) (k : ownG tb e below P A) : ownG tb e below P B := by
  obtain ⟨t, h, q⟩ := k
  exact ⟨t, st t h, q⟩
theorem ownSt {tb : Tables} {e : Env} {below : List Frame} {P : State → Prop} {A B : State} (st : Steps tb e below B A) (k : ownG tb e below P A) : ownG tb e below P B := by
  obtain ⟨t, h, q⟩ := k
  exact ⟨t, st.trans h, q⟩
def ownE (s : State) (below : List Frame) (Q : Option Value → Heap → List Loc → Prop) (k n : Nat) (t : State) : Prop := t.status = .running ∧ ∃ v L, Ended t below (.returned v) ∧ Q v t.heap L ∧ FrameEnd s (.returned v) t L k n
def ownEH (s : State) (below : List Frame) (Q : Option Value → Heap → List Loc → Prop) (Z : State) (EL : List (String × Nat)) (h0 : Heap) (k n : Nat) (t : State) : Prop := t.status = .running ∧ ∃ v L, Ended t below (.returned v) ∧ Q v t.heap L ∧ CHr Z EL s.vm h0 t.vm t.heap ∧ ReturnedEndW s (.returned v) t L k n
theorem ownOut {tb : Tables} {e : Env} {below : List Frame} {P : Option Value → Heap → List Loc → Prop} {s A : State} {k n : Nat} (g : ownG tb e below (ownE s below P k n) A) :
    ∃ s₂ o, Steps tb e below A s₂ ∧ s₂.status = .running ∧ Ended s₂ below o ∧ ∃ v L, o = .returned v ∧ P v s₂.heap L ∧ FrameEnd s o s₂ L k n := by
  obtain ⟨t, h, r, v, L, e1, q, f⟩ := g
  exact ⟨t, _, h, r, e1, v, L, rfl, q, f⟩
theorem ownOutH {tb : Tables} {e : Env} {below : List Frame} {P : Option Value → Heap → List Loc → Prop} {s A Z : State} {EL : List (String × Nat)} {h0 : Heap} {k n : Nat} (hh : s.heap = h0) (g : ownG tb e below (ownEH s below P Z EL h0 k n) A) :
    ∃ s₂ o, Steps tb e below A s₂ ∧ s₂.status = .running ∧ Ended s₂ below o ∧ ∃ v L, o = .returned v ∧ P v s₂.heap L ∧ CHr Z EL s.vm s.heap s₂.vm s₂.heap ∧ ReturnedEndW s o s₂ L k n := by
  subst hh
  obtain ⟨t, h, r, v, L, e1, q, c, f⟩ := g
  exact ⟨t, _, h, r, e1, v, L, rfl, q, c, f⟩
theorem ownRet {p : Program} {l : Launch} {e : Env} {R : Room} {s : State} {m : MethodId} {args : Array Value} {below : List Frame} {meth : Method} {c : Code} {T A : State} {locs : List Loc} {cells slots k n : Nat} {P : Option Value → Heap → List Loc → Prop}
    (X : Stand p l e R s m args below meth c T locs cells slots) (hlk : meth.locks = false) {v : Option Value} (hv : meth.sig.returnType = none → v = none) (hQ : P v T.heap locs) (hk : cells ≤ k) (hn : slots ≤ n)
    (st : ∀ fs, (∀ (f : JFrame) (acts : List Action), f.method = m → f.locked = none → f.entered = [] → (doReturn e (T.setTop f) acts v).1 = T.setFrames fs) → Steps p.tables e below A (T.setFrames fs)) :
    ownG p.tables e below (ownE s below P k n) A := by
  obtain ⟨fs, hr, hrun, hended, hW, hsame⟩ := X.leave hv hlk
  exact ⟨_, st fs hr, hrun, v, locs, hended, hQ, ⟨_, rfl⟩, hW, hsame.mono hk hn⟩
theorem ownRetH {p : Program} {l : Launch} {e : Env} {R : Room} {s : State} {m : MethodId} {args : Array Value} {below : List Frame} {meth : Method} {c : Code} {T A Z : State} {EL : List (String × Nat)} {h0 : Heap} {locs : List Loc} {cells slots k n k1 : Nat} {vm1 : Vm} {P : Option Value → Heap → List Loc → Prop}
    (X : Stand p l e R (s.setVm vm1) m args below meth c T locs cells slots) (hS : s.Since vm1 k1) (hk1 : k1 ≤ T.heap.size) (hlk : meth.locks = false) {v : Option Value} (hv : meth.sig.returnType = none → v = none) (hQ : P v T.heap locs) (hC : CHr Z EL s.vm h0 T.vm T.heap) (hk : cells ≤ k) (hn : slots ≤ n)
    (st : ∀ fs, (∀ (f : JFrame) (acts : List Action), f.method = m → f.locked = none → f.entered = [] → (doReturn e (T.setTop f) acts v).1 = T.setFrames fs) → Steps p.tables e below A (T.setFrames fs)) :
    ownG p.tables e below (ownEH s below P Z EL h0 k n) A := by
  obtain ⟨fs, hr, hrun, hended, hR⟩ := X.leaveW hS hk1 hv hlk
  exact ⟨_, st fs hr, hrun, v, locs, hended, hQ, hC, hR.1, hR.2.1, hR.2.2.1, hR.2.2.2.mono hk hn⟩
theorem own_since {s : State} {n : Nat} : s.Since s.vm n := (State.WarmedH.refl s).since n
theorem own_cat {v : Value} (h : v.isRef = true) : v.category = 1 := by cases v <;> simp_all [Value.isRef, Value.category]
theorem own_narrow {t : FieldType} {v : Value} (ht : t.isReference = true) (h : v.isRef = true) : narrow t v = v := by
  rcases ref_cases h with rfl | ⟨a, rfl⟩ <;> cases t <;> simp_all [narrow, FieldType.isReference]
theorem own_fits {t : FieldType} {v : Value} (ht : t.isReference = true) (h : v.isRef = true) : fits t v = true := by
  rcases ref_cases h with rfl | ⟨a, rfl⟩ <;> cases t <;> simp_all [fits, FieldType.isReference]
theorem own_and255 (x : Int32) : ¬ nar .char ((x &&& (255 : Int32)).toUInt32.toUInt16.toUInt32.toInt32) < 0 ∧ ¬ (255 : Int32) < nar .char ((x &&& (255 : Int32)).toUInt32.toUInt16.toUInt32.toInt32) := by
  have t : ∀ k : Fin 256, ¬ nar .char ((Int32.ofNat k.val).toUInt32.toUInt16.toUInt32.toInt32) < 0 ∧ ¬ (255 : Int32) < nar .char ((Int32.ofNat k.val).toUInt32.toUInt16.toUInt32.toInt32) := by decide +kernel
  have h : (x &&& 255).toBitVec.toNat < 256 := by
    simp only [Int32.toBitVec_and, BitVec.toNat_and]
    exact Nat.lt_succ_of_le Nat.and_le_right
  have e : (x &&& 255) = Int32.ofNat (x &&& 255).toBitVec.toNat := by
    apply Int32.toBitVec_inj.mp
    show _ = BitVec.ofNat 32 _
    rw [BitVec.ofNat_toNat]; simp
  rw [e]
  exact t ⟨_, h⟩
theorem own_up (cs : List Int32) (h : ∀ c ∈ cs, ¬ c < 0 ∧ ¬ (255 : Int32) < c) : ∀ c ∈ cs, ¬ c < 0 ∧ ¬ (65535 : Int32) < c := fun c hc => ⟨(h c hc).1, fun q => (h c hc).2 (by rw [Int32.lt_iff_toInt_lt] at q ⊢; have e1 : (65535 : Int32).toInt = 65535 := rfl; have e2 : (255 : Int32).toInt = 255 := rfl; omega)⟩
theorem own_nz {args : Array Value} {s : State} {t : Jvm.Term} {g : Int32} (e : t.eval args s none [] s = some (.int g)) (h : (Jvm.Cond.not (Jvm.Cond.eq t (Jvm.Term.int (0 : Int32)))).value args s none s [] = some true) : ¬ (g = (0 : Int32)) := by
  intro q
  subst q
  simp [Jvm.Cond.value, Jvm.Term.eval, e] at h
theorem own_lcmp_self (x : Int64) : lcmpW x x = 0 := by rw [lcW]; exact (lc_eq x x).mpr rfl
theorem own_nar_byte (x : Int32) : nar .byte (x.toInt8.toInt32) = x.toInt8.toInt32 := by simp [nar]
theorem own_nar_char (x : Int32) : nar .char (x.toUInt32.toUInt16.toUInt32.toInt32) = x.toUInt32.toUInt16.toUInt32.toInt32 := by
  have q := c_i2c x
  have q2 := c_i2c (x.toUInt32.toUInt16.toUInt32.toInt32)
  exact Int32.toInt_inj.mp (by show ((x.toUInt32.toUInt16.toUInt32.toInt32).toUInt32.toUInt16.toUInt32.toInt32).toInt = _; omega)
theorem own_and255c (x : Int32) : ¬ ((255 : Int32) < (x &&& (255 : Int32)).toUInt32.toUInt16.toUInt32.toInt32) := by
  have h := (own_and255 x).2
  rwa [own_nar_char] at h
def own_b (p : Prop) [Decidable p] : Int32 := if p then 1 else 0
theorem own_bt0 {p : Prop} [Decidable p] (h : p) : ¬ (own_b p = (0 : Int32)) := by simp [own_b, h]
theorem own_bf0 {p : Prop} [Decidable p] (h : ¬ p) : own_b p = (0 : Int32) := by simp [own_b, h]
theorem own_bt1 {p : Prop} [Decidable p] (h : p) : own_b p = (1 : Int32) := by simp [own_b, h]
theorem own_bf1 {p : Prop} [Decidable p] (h : ¬ p) : ¬ (own_b p = (1 : Int32)) := by simp [own_b, h]
theorem own_eqv {s : State} {args : Array Value} {t u : Jvm.Term} {w : Addr} (eu : u.eval args s none [] s = some (.ref w)) (h : (Jvm.Cond.eq t u).value args s none s [] = some true) : t.eval args s none [] s = some (.ref w) := by
  obtain ⟨x, y, ex, ey, kx, -⟩ := cmp_v (Or.inl h)
  cases eu.symm.trans ey
  have hr : x.isRef = true := by cases x <;> simp_all [Kin, Value.isRef]
  have q := gotT (eq_R ex ey hr rfl) h
  rw [ex, q]
theorem own_len {s : State} {args : Array Value} {t : Jvm.Term} {a : Addr} {c : Cell} {ty : FieldType} {n : Int32} (ev : t.eval args s none [] s = some (.ref a)) (A : Arr s s.heap a c ty) (h : (Jvm.Cond.eq (Jvm.Term.length t) (Jvm.Term.int n)).value args s none s [] = some true) : c.slots.size < 2 ^ 31 ∧ c.slots.size.toInt32 = n := by
  have q := eqv_i (y := n) rfl h
  have ha := A.fin (Vm.Alike.refl _)
  simp only [Jvm.Term.eval, ev, ha, Option.bind_eq_bind, Option.bind_some] at q
  split at q
  · rename_i hl
    exact ⟨hl, by simpa using q⟩
  · simp at q
theorem own_elem {s : State} {args : Array Value} {t : Jvm.Term} {a : Addr} {c : Cell} {ty : FieldType} {j : Int32} {v : Value} (ev : t.eval args s none [] s = some (.ref a)) (A : Arr s s.heap a c ty) (h : (Jvm.Term.elem t (Jvm.Term.int j)).eval args s none [] s = some v) : c.slots[j.toNatClampNeg]? = some v :=
  (elem_in h ev rfl A.1).2
theorem own_nar_rng {c : Int32} (h0 : ¬ c < 0) (h1 : ¬ (255 : Int32) < c) : nar .char c = c := by
  have e0 : (0 : Int32).toInt = 0 := rfl
  have e1 : (255 : Int32).toInt = 255 := rfl
  simp only [Int32.lt_iff_toInt_lt] at h0 h1
  have q := c_i2c c
  exact Int32.toInt_inj.mp (by show (c.toUInt32.toUInt16.toUInt32.toInt32).toInt = _; omega)
theorem own_idx {p : Int32} {n : Nat} (h0 : ¬ p < 0) (h : p < Int32.ofNat n) (hn : n ≤ 4000) : p.toNatClampNeg < n := by
  have e0 : (0 : Int32).toInt = 0 := rfl
  simp only [Int32.lt_iff_toInt_lt] at h0 h
  rw [Int32.toInt_ofNat_of_lt (by omega)] at h
  show p.toInt.toNat < n
  omega
theorem own_set_rng {cs : List Int32} {i : Nat} {x : Int32} (h : ∀ c ∈ cs, ¬ c < 0 ∧ ¬ (255 : Int32) < c) (hx : ¬ x < 0 ∧ ¬ (255 : Int32) < x) : ∀ c ∈ cs.set i x, ¬ c < 0 ∧ ¬ (255 : Int32) < c := fun c hc =>
  (List.mem_or_eq_of_mem_set hc).elim (h c) (fun e => e ▸ hx)
theorem own_rem_nn (x y : Int32) (hy : 0 < y.toInt) : ¬ ((x &&& (2147483647 : Int32)) % y < 0) := by
  have h0 : 0 ≤ (x &&& (2147483647 : Int32)).toInt := (c_and x 2147483647 (by decide)).1
  have q := (c_iremV (x &&& 2147483647) y).1 h0 hy
  have e0 : (0 : Int32).toInt = 0 := rfl
  simp only [Int32.lt_iff_toInt_lt]
  omega
theorem own_and255p (x : Int32) : ¬ (x &&& (255 : Int32)).toUInt32.toUInt16.toUInt32.toInt32 < 0 ∧ ¬ ((255 : Int32) < (x &&& (255 : Int32)).toUInt32.toUInt16.toUInt32.toInt32) := by
  have h := own_and255 x
  rwa [own_nar_char] at h
theorem own_ty_ne {Z : State} {h : Heap} {a b : Addr} {k1 k2 : ClassId} {t1 t2 : FieldType} {z1 z2 : Int32} {v1 v2 : List Value} {d1 d2 : Value} (A : Arv Z h a k1 t1 z1 v1 d1) (B : Arv Z h b k2 t2 z2 v2 d2) (q : t1 ≠ t2) : a ≠ b := fun e => by
  subst e
  obtain ⟨c1, A1, -⟩ := A
  obtain ⟨c2, B1, -⟩ := B
  cases A1.1.symm.trans B1.1
  obtain ⟨-, k, hk, comp, hkind⟩ := A1.2.1
  obtain ⟨-, k', hk', comp', hkind'⟩ := B1.2.1
  cases hk.symm.trans hk'
  rw [hkind] at hkind'
  injection hkind' with _ e2
  exact q e2
theorem own_hide {p : Program} {l : Launch} {e : Env} {R : Room} {s : State} {m : MethodId} {args : Array Value} {below : List Frame} {meth : Method} {c : Code} {T : State} {locs : List Loc} {cells slots cells' slots' n0 : Nat} (X : Stand p l e R s m args below meth c T locs cells slots) (N : Fr n0 locs) (hc : cells ≤ cells') (hs : slots ≤ slots') : ∃ L, Stand p l e R s m args below meth c T L cells' slots' ∧ Fr n0 L := ⟨_, X.more hc hs, N⟩
theorem own_getF {p : Program} {l : Launch} {e : Env} {R : Room} {s : State} {m : MethodId} {args : Array Value} {below : List Frame} {meth : Method} {c : Code} {T Z : State} {locs : List Loc} {cells slots : Nat} {a0 : Array Value} {h : Heap} {P : State → Prop} (X : Stand p l e R s m args below meth c T locs cells slots) (hx : p.tables.exec = Jvm.exec) (hZ : Z.Warmed39 s.vm) {own R0 O n d host : String} {index : Nat} (hown : s.vm.findClass own = some m.cls) (w : (Jvm.Cond.fieldLink own index R0 n d).before a0 Z = true ∨ (Jvm.Cond.fieldLinkNest own index R0 n d host).before a0 Z = true) (via : Via Z R0 O n d)
    (eT : T.heap = h) {a : Addr} {v : Value} (F : Fld Z h a O n d v) {pc : Nat} {Ls : Array Slot} {rest : List Value} (hd : decode c.code pc = .ok (.getfield index, 3)) (k : ∀ T', Stand p l e R s m args below meth c T' locs cells slots → T'.heap = h → ownG p.tables e below P (T'.setTop (mkF m (pc + 3) Ls (v :: rest)))) : ownG p.tables e below P (T.setTop (mkF m pc Ls (.ref a :: rest))) := by
  obtain ⟨T', X', e', st⟩ := getF X hx hZ hown w via eT F (g := mkF m pc Ls (.ref a :: rest)) rfl rfl hd
  exact ownBy st (k T' X' e')
theorem oLe {a b : Nat} (h : Nat.ble a b = true) : a ≤ b := Nat.le_of_ble_eq_true h
theorem oHd {p : Program} {l : Launch} {e : Env} {R : Room} {s : State} {m : MethodId} {args : Array Value} {below : List Frame} {meth : Method} {c : Code} {T : State} {locs : List Loc} {cells slots n0 : Nat} (cells' slots' : Nat) (X : Stand p l e R s m args below meth c T locs cells slots) (N : Fr n0 locs) (hc : Nat.ble cells cells' = true) (hs : Nat.ble slots slots' = true) : ∃ L, Stand p l e R s m args below meth c T L cells' slots' ∧ Fr n0 L := own_hide X N (oLe hc) (oLe hs)
theorem own_eq_nlt {a b : Int32} (h1 : ¬ a < b) (h2 : ¬ b < a) : b = a := by
  simp only [Int32.lt_iff_toInt_lt] at h1 h2
  exact Int32.toInt_inj.mp (by omega)
theorem own_b_congr {p q : Prop} [Decidable p] [Decidable q] (h : p ↔ q) : own_b p = own_b q := by
  by_cases hp : p
  · rw [own_bt1 hp, own_bt1 (h.mp hp)]
  · rw [own_bf0 hp, own_bf0 (fun x => hp (h.mpr x))]
section Plain
variable {a b c z0 w0 w1 v0 v1 v2 x : Int32} {la lb lc m0 u0 u1 t0 t1 t2 r : Int64}
theorem own_h1 (h1 : z0 = a ∧ m0 = la) : (x = z0) ↔ (x = a) := by rw [h1.1]
theorem own_h2 (h1 : z0 = a ∧ m0 = la) (h2 : (w0 = b ∧ u0 = lb ∧ w1 = z0 ∧ u1 = m0) ∨ (w0 = z0 ∧ u0 = m0 ∧ w1 = b ∧ u1 = lb)) : (x = w0 ∨ x = w1) ↔ (x = a ∨ x = b) := by
  obtain ⟨rfl, rfl⟩ := h1
  rcases h2 with ⟨rfl, rfl, rfl, rfl⟩ | ⟨rfl, rfl, rfl, rfl⟩
  · exact or_comm
  · exact Iff.rfl
theorem own_h3 (h1 : z0 = a ∧ m0 = la) (h2 : (w0 = b ∧ u0 = lb ∧ w1 = z0 ∧ u1 = m0) ∨ (w0 = z0 ∧ u0 = m0 ∧ w1 = b ∧ u1 = lb)) (h3 : (v0 = c ∧ t0 = lc ∧ v1 = w0 ∧ t1 = u0 ∧ v2 = w1 ∧ t2 = u1) ∨ (v0 = w0 ∧ t0 = u0 ∧ v1 = c ∧ t1 = lc ∧ v2 = w1 ∧ t2 = u1) ∨ (v0 = w0 ∧ t0 = u0 ∧ v1 = w1 ∧ t1 = u1 ∧ v2 = c ∧ t2 = lc)) : (x = v0 ∨ x = v1 ∨ x = v2) ↔ (x = a ∨ x = b ∨ x = c) := by
  have q := own_h2 (x := x) h1 h2
  have q2 : (x = v0 ∨ x = v1 ∨ x = v2) ↔ ((x = w0 ∨ x = w1) ∨ x = c) := by
    rcases h3 with ⟨rfl, -, rfl, -, rfl, -⟩ | ⟨rfl, -, rfl, -, rfl, -⟩ | ⟨rfl, -, rfl, -, rfl, -⟩
    · exact or_comm
    · constructor
      · rintro (h | h | h)
        · exact Or.inl (Or.inl h)
        · exact Or.inr h
        · exact Or.inl (Or.inr h)
      · rintro ((h | h) | h)
        · exact Or.inl h
        · exact Or.inr (Or.inr h)
        · exact Or.inr (Or.inl h)
    · exact or_assoc.symm
  rw [q2, q, or_assoc]
theorem own_n1 (h1 : z0 = a ∧ m0 = la) (hn : ¬ (b = a)) : ¬ (b = z0) := by rw [h1.1]; exact hn
theorem own_n2 (h1 : z0 = a ∧ m0 = la) (h2 : (w0 = b ∧ u0 = lb ∧ w1 = z0 ∧ u1 = m0) ∨ (w0 = z0 ∧ u0 = m0 ∧ w1 = b ∧ u1 = lb)) (ha : ¬ (c = a)) (hb : ¬ (c = b)) : ¬ (c = w0) ∧ ¬ (c = w1) := by
  obtain ⟨rfl, rfl⟩ := h1
  rcases h2 with ⟨rfl, rfl, rfl, rfl⟩ | ⟨rfl, rfl, rfl, rfl⟩
  · exact ⟨hb, ha⟩
  · exact ⟨ha, hb⟩
/-- the line that belongs to a year -/
theorem own_l1 (h1 : z0 = a ∧ m0 = la) (hr : a = z0 ∧ r = m0) : r = la := hr.2.trans h1.2
theorem own_p2 (h1 : z0 = a ∧ m0 = la) (h2 : (w0 = b ∧ u0 = lb ∧ w1 = z0 ∧ u1 = m0) ∨ (w0 = z0 ∧ u0 = m0 ∧ w1 = b ∧ u1 = lb)) (hr : (x = w0 ∧ r = u0) ∨ (x = w1 ∧ r = u1)) : (x = a ∧ r = la) ∨ (x = b ∧ r = lb) := by
  obtain ⟨rfl, rfl⟩ := h1
  rcases h2 with ⟨rfl, rfl, rfl, rfl⟩ | ⟨rfl, rfl, rfl, rfl⟩
  · exact hr.symm
  · exact hr
theorem own_p3 (h1 : z0 = a ∧ m0 = la) (h2 : (w0 = b ∧ u0 = lb ∧ w1 = z0 ∧ u1 = m0) ∨ (w0 = z0 ∧ u0 = m0 ∧ w1 = b ∧ u1 = lb)) (h3 : (v0 = c ∧ t0 = lc ∧ v1 = w0 ∧ t1 = u0 ∧ v2 = w1 ∧ t2 = u1) ∨ (v0 = w0 ∧ t0 = u0 ∧ v1 = c ∧ t1 = lc ∧ v2 = w1 ∧ t2 = u1) ∨ (v0 = w0 ∧ t0 = u0 ∧ v1 = w1 ∧ t1 = u1 ∧ v2 = c ∧ t2 = lc)) (hr : (x = v0 ∧ r = t0) ∨ (x = v1 ∧ r = t1) ∨ (x = v2 ∧ r = t2)) : (x = a ∧ r = la) ∨ (x = b ∧ r = lb) ∨ (x = c ∧ r = lc) := by
  have q : ((x = w0 ∧ r = u0) ∨ (x = w1 ∧ r = u1)) ∨ (x = c ∧ r = lc) := by
    rcases h3 with ⟨rfl, rfl, rfl, rfl, rfl, rfl⟩ | ⟨rfl, rfl, rfl, rfl, rfl, rfl⟩ | ⟨rfl, rfl, rfl, rfl, rfl, rfl⟩
    · rcases hr with h | h | h
      · exact Or.inr h
      · exact Or.inl (Or.inl h)
      · exact Or.inl (Or.inr h)
    · rcases hr with h | h | h
      · exact Or.inl (Or.inl h)
      · exact Or.inr h
      · exact Or.inl (Or.inr h)
    · rcases hr with h | h | h
      · exact Or.inl (Or.inl h)
      · exact Or.inl (Or.inr h)
      · exact Or.inr h
  rcases q with h | h
  · exact (own_p2 h1 h2 h).imp_right Or.inl
  · exact Or.inr (Or.inr h)
end Plain
theorem own_six (f : Int32) : (f &&& (7 : Int32)) % (6 : Int32) = (0 : Int32) ∨ (f &&& (7 : Int32)) % (6 : Int32) = (1 : Int32) ∨ (f &&& (7 : Int32)) % (6 : Int32) = (2 : Int32) ∨ (f &&& (7 : Int32)) % (6 : Int32) = (3 : Int32) ∨ (f &&& (7 : Int32)) % (6 : Int32) = (4 : Int32) ∨ (f &&& (7 : Int32)) % (6 : Int32) = (5 : Int32) := by
  have h0 := c_and f 7 (by decide)
  have q := (c_iremV (f &&& 7) 6).1 h0.1 (by decide)
  have e6 : (6 : Int32).toInt = 6 := rfl
  have e0 : (0 : Int32).toInt = 0 := rfl
  have e1 : (1 : Int32).toInt = 1 := rfl
  have e2 : (2 : Int32).toInt = 2 := rfl
  have e3 : (3 : Int32).toInt = 3 := rfl
  have e4 : (4 : Int32).toInt = 4 := rfl
  have e5 : (5 : Int32).toInt = 5 := rfl
  simp only [← Int32.toInt_inj, e0, e1, e2, e3, e4, e5]
  omega
theorem own_dist {a u v b c : Int32} (h1 : ((a + (1 : Int32)) + (u &&& (255 : Int32))) = b) (h2 : ((b + (1 : Int32)) + (v &&& (255 : Int32))) = c) : ¬ (b = a) ∧ ¬ (c = a) ∧ ¬ (c = b) := by
  subst h1
  subst h2
  have hu : (u &&& (255 : Int32)).toBitVec.toNat ≤ 255 := by
    show (u.toBitVec &&& (255 : Int32).toBitVec).toNat ≤ 255
    rw [BitVec.toNat_and]
    exact Nat.and_le_right
  have hv : (v &&& (255 : Int32)).toBitVec.toNat ≤ 255 := by
    show (v.toBitVec &&& (255 : Int32).toBitVec).toNat ≤ 255
    rw [BitVec.toNat_and]
    exact Nat.and_le_right
  generalize u &&& (255 : Int32) = x at hu ⊢
  generalize v &&& (255 : Int32) = y at hv ⊢
  have e1 : (1 : Int32).toBitVec.toNat = 1 := rfl
  have la := a.toBitVec.isLt
  refine ⟨fun q => ?_, fun q => ?_, fun q => ?_⟩
  all_goals
    have q2 := congrArg (fun z : Int32 => z.toBitVec.toNat) q
    simp only [Int32.toBitVec_add, BitVec.toNat_add, e1] at q2
    omega
theorem own_lt23 {x : Int32} (h : x < (2 : Int32)) : x < (3 : Int32) := by
  have e2 : (2 : Int32).toInt = 2 := rfl
  have e3 : (3 : Int32).toInt = 3 := rfl
  simp only [Int32.lt_iff_toInt_lt] at h ⊢
  omega
theorem pn_1 : plainName "java/util/Arrays" = true := by first | (simp [plainName, overriddenIn]; done) | decide +kernel
theorem d10_0 : decode jdk_65_method_30_code 0 = .ok (.iload_n 1, 1) := by decide +kernel
theorem d10_1 : decode jdk_65_method_30_code 1 = .ok (.iload_n 2, 1) := by decide +kernel
theorem d10_2 : decode jdk_65_method_30_code 2 = .ok (.if_icmp .le 44, 3) := by decide +kernel
theorem d10_46 : decode jdk_65_method_30_code 46 = .ok (.iload_n 1, 1) := by decide +kernel
theorem d10_47 : decode jdk_65_method_30_code 47 = .ok (.ifCond .ge 12, 3) := by decide +kernel
theorem d10_59 : decode jdk_65_method_30_code 59 = .ok (.iload_n 2, 1) := by decide +kernel
theorem d10_60 : decode jdk_65_method_30_code 60 = .ok (.iload_n 0, 1) := by decide +kernel
theorem d10_61 : decode jdk_65_method_30_code 61 = .ok (.if_icmp .le 12, 3) := by decide +kernel
theorem d10_73 : decode jdk_65_method_30_code 73 = .ok (.return_, 1) := by decide +kernel
theorem d11_0 : decode jdk_65_method_59_code 0 = .ok (.iload_n 1, 1) := by decide +kernel
theorem d11_1 : decode jdk_65_method_59_code 1 = .ok (.istore 4, 2) := by decide +kernel
theorem d11_3 : decode jdk_65_method_59_code 3 = .ok (.iload_n 2, 1) := by decide +kernel
theorem d11_4 : decode jdk_65_method_59_code 4 = .ok (.iconst 1, 1) := by decide +kernel
theorem d11_5 : decode jdk_65_method_59_code 5 = .ok (.isub, 1) := by decide +kernel
theorem d11_6 : decode jdk_65_method_59_code 6 = .ok (.istore 5, 2) := by decide +kernel
theorem d11_8 : decode jdk_65_method_59_code 8 = .ok (.iload 4, 2) := by decide +kernel
theorem d11_10 : decode jdk_65_method_59_code 10 = .ok (.iload 5, 2) := by decide +kernel
theorem d11_12 : decode jdk_65_method_59_code 12 = .ok (.if_icmp .gt 54, 3) := by decide +kernel
theorem d11_15 : decode jdk_65_method_59_code 15 = .ok (.iload 4, 2) := by decide +kernel
theorem d11_17 : decode jdk_65_method_59_code 17 = .ok (.iload 5, 2) := by decide +kernel
theorem d11_19 : decode jdk_65_method_59_code 19 = .ok (.iadd, 1) := by decide +kernel
theorem d11_20 : decode jdk_65_method_59_code 20 = .ok (.iconst 1, 1) := by decide +kernel
theorem d11_21 : decode jdk_65_method_59_code 21 = .ok (.iushr, 1) := by decide +kernel
theorem d11_22 : decode jdk_65_method_59_code 22 = .ok (.istore 6, 2) := by decide +kernel
theorem d11_24 : decode jdk_65_method_59_code 24 = .ok (.aload_n 0, 1) := by decide +kernel
theorem d11_25 : decode jdk_65_method_59_code 25 = .ok (.iload 6, 2) := by decide +kernel
theorem d11_27 : decode jdk_65_method_59_code 27 = .ok (.iaload, 1) := by decide +kernel
theorem d11_28 : decode jdk_65_method_59_code 28 = .ok (.istore 7, 2) := by decide +kernel
theorem d11_30 : decode jdk_65_method_59_code 30 = .ok (.iload 7, 2) := by decide +kernel
theorem d11_32 : decode jdk_65_method_59_code 32 = .ok (.iload_n 3, 1) := by decide +kernel
theorem d11_33 : decode jdk_65_method_59_code 33 = .ok (.if_icmp .ge 12, 3) := by decide +kernel
theorem d11_36 : decode jdk_65_method_59_code 36 = .ok (.iload 6, 2) := by decide +kernel
theorem d11_38 : decode jdk_65_method_59_code 38 = .ok (.iconst 1, 1) := by decide +kernel
theorem d11_39 : decode jdk_65_method_59_code 39 = .ok (.iadd, 1) := by decide +kernel
theorem d11_40 : decode jdk_65_method_59_code 40 = .ok (.istore 4, 2) := by decide +kernel
theorem d11_42 : decode jdk_65_method_59_code 42 = .ok (.goto 21, 3) := by decide +kernel
theorem d11_63 : decode jdk_65_method_59_code 63 = .ok (.goto (-55), 3) := by decide +kernel
theorem d11_66 : decode jdk_65_method_59_code 66 = .ok (.iload 4, 2) := by decide +kernel
theorem d11_68 : decode jdk_65_method_59_code 68 = .ok (.iconst 1, 1) := by decide +kernel
theorem d11_69 : decode jdk_65_method_59_code 69 = .ok (.iadd, 1) := by decide +kernel
theorem d11_70 : decode jdk_65_method_59_code 70 = .ok (.ineg, 1) := by decide +kernel
theorem d11_71 : decode jdk_65_method_59_code 71 = .ok (.ireturn, 1) := by decide +kernel
theorem d11_45 : decode jdk_65_method_59_code 45 = .ok (.iload 7, 2) := by decide +kernel
theorem d11_47 : decode jdk_65_method_59_code 47 = .ok (.iload_n 3, 1) := by decide +kernel
theorem d11_48 : decode jdk_65_method_59_code 48 = .ok (.if_icmp .le 12, 3) := by decide +kernel
theorem d11_51 : decode jdk_65_method_59_code 51 = .ok (.iload 6, 2) := by decide +kernel
theorem d11_53 : decode jdk_65_method_59_code 53 = .ok (.iconst 1, 1) := by decide +kernel
theorem d11_54 : decode jdk_65_method_59_code 54 = .ok (.isub, 1) := by decide +kernel
theorem d11_55 : decode jdk_65_method_59_code 55 = .ok (.istore 5, 2) := by decide +kernel
theorem d11_57 : decode jdk_65_method_59_code 57 = .ok (.goto 6, 3) := by decide +kernel
theorem d11_60 : decode jdk_65_method_59_code 60 = .ok (.iload 6, 2) := by decide +kernel
theorem d11_62 : decode jdk_65_method_59_code 62 = .ok (.ireturn, 1) := by decide +kernel
theorem d9_0 : decode jdk_65_method_58_code 0 = .ok (.aload_n 0, 1) := by decide +kernel
theorem d9_1 : decode jdk_65_method_58_code 1 = .ok (.arraylength, 1) := by decide +kernel
theorem d9_2 : decode jdk_65_method_58_code 2 = .ok (.iload_n 1, 1) := by decide +kernel
theorem d9_3 : decode jdk_65_method_58_code 3 = .ok (.iload_n 2, 1) := by decide +kernel
theorem d9_4 : decode jdk_65_method_58_code 4 = .ok (.invokestatic 13, 3) := by decide +kernel
theorem pd_7 : parseMethodDescriptor "(III)V" = some ⟨[.int, .int, .int], none⟩ := by decide +kernel
theorem d9_7 : decode jdk_65_method_58_code 7 = .ok (.aload_n 0, 1) := by decide +kernel
theorem d9_8 : decode jdk_65_method_58_code 8 = .ok (.iload_n 1, 1) := by decide +kernel
theorem d9_9 : decode jdk_65_method_58_code 9 = .ok (.iload_n 2, 1) := by decide +kernel
theorem d9_10 : decode jdk_65_method_58_code 10 = .ok (.iload_n 3, 1) := by decide +kernel
theorem d9_11 : decode jdk_65_method_58_code 11 = .ok (.invokestatic 209, 3) := by decide +kernel
theorem pd_11 : parseMethodDescriptor "([IIII)I" = some ⟨[(.array .int), .int, .int, .int], some .int⟩ := by decide +kernel
theorem d9_14 : decode jdk_65_method_58_code 14 = .ok (.ireturn, 1) := by decide +kernel
theorem pn_43 : plainName "java/util/AbstractCollection" = true := by first | (simp [plainName, overriddenIn]; done) | decide +kernel
theorem d3_0 : decode jdk_22_method_1_code 0 = .ok (.aload_n 0, 1) := by decide +kernel
theorem d3_1 : decode jdk_22_method_1_code 1 = .ok (.invokespecial 1, 3) := by decide +kernel
theorem d3_4 : decode jdk_22_method_1_code 4 = .ok (.return_, 1) := by decide +kernel
theorem pn_45 : plainName "java/util/AbstractList" = true := by first | (simp [plainName, overriddenIn]; done) | decide +kernel
theorem d2_0 : decode jdk_39_method_1_code 0 = .ok (.aload_n 0, 1) := by decide +kernel
theorem d2_1 : decode jdk_39_method_1_code 1 = .ok (.invokespecial 1, 3) := by decide +kernel
theorem pd_47 : parseMethodDescriptor "()V" = some ⟨[], none⟩ := by decide +kernel
theorem d2_4 : decode jdk_39_method_1_code 4 = .ok (.aload_n 0, 1) := by decide +kernel
theorem d2_5 : decode jdk_39_method_1_code 5 = .ok (.iconst 0, 1) := by decide +kernel
theorem d2_6 : decode jdk_39_method_1_code 6 = .ok (.putfield 7, 3) := by decide +kernel
theorem d2_9 : decode jdk_39_method_1_code 9 = .ok (.return_, 1) := by decide +kernel
theorem pn_58 : plainName "java/util/ArrayList" = true := by first | (simp [plainName, overriddenIn]; done) | decide +kernel
theorem d1_0 : decode jdk_38_method_2_code 0 = .ok (.aload_n 0, 1) := by decide +kernel
theorem d1_1 : decode jdk_38_method_2_code 1 = .ok (.invokespecial 1, 3) := by decide +kernel
theorem d1_4 : decode jdk_38_method_2_code 4 = .ok (.aload_n 0, 1) := by decide +kernel
theorem d1_5 : decode jdk_38_method_2_code 5 = .ok (.getstatic 39, 3) := by decide +kernel
theorem d1_8 : decode jdk_38_method_2_code 8 = .ok (.putfield 9, 3) := by decide +kernel
theorem d1_11 : decode jdk_38_method_2_code 11 = .ok (.return_, 1) := by decide +kernel
theorem d6_0 : decode jdk_38_method_8_code 0 = .ok (.aload_n 0, 1) := by decide +kernel
theorem d6_1 : decode jdk_38_method_8_code 1 = .ok (.getfield 48, 3) := by decide +kernel
theorem d6_4 : decode jdk_38_method_8_code 4 = .ok (.ireturn, 1) := by decide +kernel
theorem pn_73 : plainName "com/example/vestline/vestline/HoursByPlanYear$Builder" = true := by first | (simp [plainName, overriddenIn]; done) | decide +kernel
theorem d5_0 : decode prog_14_method_1_code 0 = .ok (.aload_n 0, 1) := by decide +kernel
theorem d5_1 : decode prog_14_method_1_code 1 = .ok (.invokespecial 3, 3) := by decide +kernel
theorem d5_4 : decode prog_14_method_1_code 4 = .ok (.aload_n 0, 1) := by decide +kernel
theorem d5_5 : decode prog_14_method_1_code 5 = .ok (.bipush 8, 2) := by decide +kernel
theorem d5_7 : decode prog_14_method_1_code 7 = .ok (.newarray .int, 2) := by decide +kernel
theorem d5_9 : decode prog_14_method_1_code 9 = .ok (.putfield 11, 3) := by decide +kernel
theorem d5_12 : decode prog_14_method_1_code 12 = .ok (.aload_n 0, 1) := by decide +kernel
theorem d5_13 : decode prog_14_method_1_code 13 = .ok (.bipush 8, 2) := by decide +kernel
theorem d5_15 : decode prog_14_method_1_code 15 = .ok (.anewarray 15, 3) := by decide +kernel
theorem d5_18 : decode prog_14_method_1_code 18 = .ok (.putfield 17, 3) := by decide +kernel
theorem d5_21 : decode prog_14_method_1_code 21 = .ok (.aload_n 0, 1) := by decide +kernel
theorem d5_22 : decode prog_14_method_1_code 22 = .ok (.aload_n 1, 1) := by decide +kernel
theorem d5_23 : decode prog_14_method_1_code 23 = .ok (.putfield 21, 3) := by decide +kernel
theorem d5_26 : decode prog_14_method_1_code 26 = .ok (.aload_n 0, 1) := by decide +kernel
theorem d5_27 : decode prog_14_method_1_code 27 = .ok (.aload_n 1, 1) := by decide +kernel
theorem d5_28 : decode prog_14_method_1_code 28 = .ok (.invokeinterface 25 1, 5) := by decide +kernel
theorem pd_114 : parseMethodDescriptor "()I" = some ⟨[], some .int⟩ := by decide +kernel
theorem d5_33 : decode prog_14_method_1_code 33 = .ok (.bipush 8, 2) := by decide +kernel
theorem d5_35 : decode prog_14_method_1_code 35 = .ok (.multianewarray 31 2, 4) := by decide +kernel
theorem d5_39 : decode prog_14_method_1_code 39 = .ok (.putfield 33, 3) := by decide +kernel
theorem d5_42 : decode prog_14_method_1_code 42 = .ok (.return_, 1) := by decide +kernel
theorem d7_0 : decode prog_14_method_3_code 0 = .ok (.aload_n 0, 1) := by decide +kernel
theorem d7_1 : decode prog_14_method_3_code 1 = .ok (.getfield 36, 3) := by decide +kernel
theorem d7_4 : decode prog_14_method_3_code 4 = .ok (.istore 6, 2) := by decide +kernel
theorem d7_6 : decode prog_14_method_3_code 6 = .ok (.aload_n 0, 1) := by decide +kernel
theorem d7_7 : decode prog_14_method_3_code 7 = .ok (.getfield 36, 3) := by decide +kernel
theorem d7_10 : decode prog_14_method_3_code 10 = .ok (.ifCond .le 59, 3) := by decide +kernel
theorem d7_69 : decode prog_14_method_3_code 69 = .ok (.aload_n 0, 1) := by decide +kernel
theorem d7_70 : decode prog_14_method_3_code 70 = .ok (.getfield 36, 3) := by decide +kernel
theorem d7_73 : decode prog_14_method_3_code 73 = .ok (.ifCond .ne 12, 3) := by decide +kernel
theorem d7_76 : decode prog_14_method_3_code 76 = .ok (.aload_n 0, 1) := by decide +kernel
theorem d7_77 : decode prog_14_method_3_code 77 = .ok (.lload 4, 2) := by decide +kernel
theorem d7_79 : decode prog_14_method_3_code 79 = .ok (.putfield 54, 3) := by decide +kernel
theorem d7_82 : decode prog_14_method_3_code 82 = .ok (.goto 79, 3) := by decide +kernel
theorem d7_161 : decode prog_14_method_3_code 161 = .ok (.aload_n 0, 1) := by decide +kernel
theorem d7_162 : decode prog_14_method_3_code 162 = .ok (.getfield 36, 3) := by decide +kernel
theorem d7_165 : decode prog_14_method_3_code 165 = .ok (.aload_n 0, 1) := by decide +kernel
theorem d7_166 : decode prog_14_method_3_code 166 = .ok (.getfield 11, 3) := by decide +kernel
theorem d7_169 : decode prog_14_method_3_code 169 = .ok (.arraylength, 1) := by decide +kernel
theorem d7_170 : decode prog_14_method_3_code 170 = .ok (.if_icmp .ne 106, 3) := by decide +kernel
theorem d7_276 : decode prog_14_method_3_code 276 = .ok (.aload_n 0, 1) := by decide +kernel
theorem d7_277 : decode prog_14_method_3_code 277 = .ok (.getfield 11, 3) := by decide +kernel
theorem d7_280 : decode prog_14_method_3_code 280 = .ok (.iload 6, 2) := by decide +kernel
theorem d7_282 : decode prog_14_method_3_code 282 = .ok (.aload_n 0, 1) := by decide +kernel
theorem d7_283 : decode prog_14_method_3_code 283 = .ok (.getfield 11, 3) := by decide +kernel
theorem d7_286 : decode prog_14_method_3_code 286 = .ok (.iload 6, 2) := by decide +kernel
theorem d7_288 : decode prog_14_method_3_code 288 = .ok (.iconst 1, 1) := by decide +kernel
theorem d7_289 : decode prog_14_method_3_code 289 = .ok (.iadd, 1) := by decide +kernel
theorem d7_290 : decode prog_14_method_3_code 290 = .ok (.aload_n 0, 1) := by decide +kernel
theorem d7_291 : decode prog_14_method_3_code 291 = .ok (.getfield 36, 3) := by decide +kernel
theorem d7_294 : decode prog_14_method_3_code 294 = .ok (.iload 6, 2) := by decide +kernel
theorem d7_296 : decode prog_14_method_3_code 296 = .ok (.isub, 1) := by decide +kernel
theorem d7_297 : decode prog_14_method_3_code 297 = .ok (.invokestatic 73, 3) := by decide +kernel
theorem d7_300 : decode prog_14_method_3_code 300 = .ok (.aload_n 0, 1) := by decide +kernel
theorem d7_301 : decode prog_14_method_3_code 301 = .ok (.getfield 17, 3) := by decide +kernel
theorem d7_304 : decode prog_14_method_3_code 304 = .ok (.iload 6, 2) := by decide +kernel
theorem d7_306 : decode prog_14_method_3_code 306 = .ok (.aload_n 0, 1) := by decide +kernel
theorem d7_307 : decode prog_14_method_3_code 307 = .ok (.getfield 17, 3) := by decide +kernel
theorem d7_310 : decode prog_14_method_3_code 310 = .ok (.iload 6, 2) := by decide +kernel
theorem d7_312 : decode prog_14_method_3_code 312 = .ok (.iconst 1, 1) := by decide +kernel
theorem d7_313 : decode prog_14_method_3_code 313 = .ok (.iadd, 1) := by decide +kernel
theorem d7_314 : decode prog_14_method_3_code 314 = .ok (.aload_n 0, 1) := by decide +kernel
theorem d7_315 : decode prog_14_method_3_code 315 = .ok (.getfield 36, 3) := by decide +kernel
theorem d7_318 : decode prog_14_method_3_code 318 = .ok (.iload 6, 2) := by decide +kernel
theorem d7_320 : decode prog_14_method_3_code 320 = .ok (.isub, 1) := by decide +kernel
theorem d7_321 : decode prog_14_method_3_code 321 = .ok (.invokestatic 73, 3) := by decide +kernel
theorem d7_324 : decode prog_14_method_3_code 324 = .ok (.aload_n 0, 1) := by decide +kernel
theorem d7_325 : decode prog_14_method_3_code 325 = .ok (.getfield 11, 3) := by decide +kernel
theorem d7_328 : decode prog_14_method_3_code 328 = .ok (.iload 6, 2) := by decide +kernel
theorem d7_330 : decode prog_14_method_3_code 330 = .ok (.iload_n 1, 1) := by decide +kernel
theorem d7_331 : decode prog_14_method_3_code 331 = .ok (.iastore, 1) := by decide +kernel
theorem d7_332 : decode prog_14_method_3_code 332 = .ok (.aload_n 0, 1) := by decide +kernel
theorem d7_333 : decode prog_14_method_3_code 333 = .ok (.getfield 17, 3) := by decide +kernel
theorem d7_336 : decode prog_14_method_3_code 336 = .ok (.iload 6, 2) := by decide +kernel
theorem d7_338 : decode prog_14_method_3_code 338 = .ok (.aload_n 2, 1) := by decide +kernel
theorem d7_339 : decode prog_14_method_3_code 339 = .ok (.aastore, 1) := by decide +kernel
theorem d7_340 : decode prog_14_method_3_code 340 = .ok (.aload_n 0, 1) := by decide +kernel
theorem d7_341 : decode prog_14_method_3_code 341 = .ok (.getfield 58, 3) := by decide +kernel
theorem d7_344 : decode prog_14_method_3_code 344 = .ok (.ifnull 36, 3) := by decide +kernel
theorem d7_380 : decode prog_14_method_3_code 380 = .ok (.iconst 0, 1) := by decide +kernel
theorem d7_381 : decode prog_14_method_3_code 381 = .ok (.istore 7, 2) := by decide +kernel
theorem d7_383 : decode prog_14_method_3_code 383 = .ok (.iload 7, 2) := by decide +kernel
theorem d7_385 : decode prog_14_method_3_code 385 = .ok (.aload_n 0, 1) := by decide +kernel
theorem d7_386 : decode prog_14_method_3_code 386 = .ok (.getfield 33, 3) := by decide +kernel
theorem d7_389 : decode prog_14_method_3_code 389 = .ok (.arraylength, 1) := by decide +kernel
theorem d7_390 : decode prog_14_method_3_code 390 = .ok (.if_icmp .ge 71, 3) := by decide +kernel
theorem d7_461 : decode prog_14_method_3_code 461 = .ok (.aload_n 0, 1) := by decide +kernel
theorem d7_462 : decode prog_14_method_3_code 462 = .ok (.dup, 1) := by decide +kernel
theorem d7_463 : decode prog_14_method_3_code 463 = .ok (.getfield 36, 3) := by decide +kernel
theorem d7_466 : decode prog_14_method_3_code 466 = .ok (.iconst 1, 1) := by decide +kernel
theorem d7_467 : decode prog_14_method_3_code 467 = .ok (.iadd, 1) := by decide +kernel
theorem d7_468 : decode prog_14_method_3_code 468 = .ok (.putfield 36, 3) := by decide +kernel
theorem d7_471 : decode prog_14_method_3_code 471 = .ok (.return_, 1) := by decide +kernel
theorem d7_13 : decode prog_14_method_3_code 13 = .ok (.aload_n 0, 1) := by decide +kernel
theorem d7_14 : decode prog_14_method_3_code 14 = .ok (.getfield 11, 3) := by decide +kernel
theorem d7_17 : decode prog_14_method_3_code 17 = .ok (.aload_n 0, 1) := by decide +kernel
theorem d7_18 : decode prog_14_method_3_code 18 = .ok (.getfield 36, 3) := by decide +kernel
theorem d7_21 : decode prog_14_method_3_code 21 = .ok (.iconst 1, 1) := by decide +kernel
theorem d7_22 : decode prog_14_method_3_code 22 = .ok (.isub, 1) := by decide +kernel
theorem d7_23 : decode prog_14_method_3_code 23 = .ok (.iaload, 1) := by decide +kernel
theorem d7_24 : decode prog_14_method_3_code 24 = .ok (.iload_n 1, 1) := by decide +kernel
theorem d7_25 : decode prog_14_method_3_code 25 = .ok (.if_icmp .lt 44, 3) := by decide +kernel
theorem d7_85 : decode prog_14_method_3_code 85 = .ok (.aload_n 0, 1) := by decide +kernel
theorem d7_86 : decode prog_14_method_3_code 86 = .ok (.getfield 58, 3) := by decide +kernel
theorem d7_89 : decode prog_14_method_3_code 89 = .ok (.ifnonnull 72, 3) := by decide +kernel
theorem d7_92 : decode prog_14_method_3_code 92 = .ok (.iload 6, 2) := by decide +kernel
theorem d7_94 : decode prog_14_method_3_code 94 = .ok (.aload_n 0, 1) := by decide +kernel
theorem d7_95 : decode prog_14_method_3_code 95 = .ok (.getfield 36, 3) := by decide +kernel
theorem d7_98 : decode prog_14_method_3_code 98 = .ok (.if_icmp .ne 19, 3) := by decide +kernel
theorem d7_101 : decode prog_14_method_3_code 101 = .ok (.lload 4, 2) := by decide +kernel
theorem d7_103 : decode prog_14_method_3_code 103 = .ok (.aload_n 0, 1) := by decide +kernel
theorem d7_104 : decode prog_14_method_3_code 104 = .ok (.getfield 54, 3) := by decide +kernel
theorem d7_107 : decode prog_14_method_3_code 107 = .ok (.aload_n 0, 1) := by decide +kernel
theorem d7_108 : decode prog_14_method_3_code 108 = .ok (.getfield 36, 3) := by decide +kernel
theorem d7_111 : decode prog_14_method_3_code 111 = .ok (.i2l, 1) := by decide +kernel
theorem d7_112 : decode prog_14_method_3_code 112 = .ok (.ladd, 1) := by decide +kernel
theorem d7_113 : decode prog_14_method_3_code 113 = .ok (.lcmp, 1) := by decide +kernel
theorem d7_114 : decode prog_14_method_3_code 114 = .ok (.ifCond .eq 47, 3) := by decide +kernel
theorem d7_117 : decode prog_14_method_3_code 117 = .ok (.aload_n 0, 1) := by decide +kernel
theorem d7_118 : decode prog_14_method_3_code 118 = .ok (.aload_n 0, 1) := by decide +kernel
theorem d7_119 : decode prog_14_method_3_code 119 = .ok (.getfield 11, 3) := by decide +kernel
theorem d7_122 : decode prog_14_method_3_code 122 = .ok (.arraylength, 1) := by decide +kernel
theorem d7_123 : decode prog_14_method_3_code 123 = .ok (.newarray .long, 2) := by decide +kernel
theorem d7_125 : decode prog_14_method_3_code 125 = .ok (.putfield 58, 3) := by decide +kernel
theorem d7_128 : decode prog_14_method_3_code 128 = .ok (.iconst 0, 1) := by decide +kernel
theorem d7_129 : decode prog_14_method_3_code 129 = .ok (.istore 7, 2) := by decide +kernel
theorem d7_131 : decode prog_14_method_3_code 131 = .ok (.iload 7, 2) := by decide +kernel
theorem d7_133 : decode prog_14_method_3_code 133 = .ok (.aload_n 0, 1) := by decide +kernel
theorem d7_134 : decode prog_14_method_3_code 134 = .ok (.getfield 36, 3) := by decide +kernel
theorem d7_137 : decode prog_14_method_3_code 137 = .ok (.if_icmp .ge 24, 3) := by decide +kernel
theorem d7_140 : decode prog_14_method_3_code 140 = .ok (.aload_n 0, 1) := by decide +kernel
theorem d7_141 : decode prog_14_method_3_code 141 = .ok (.getfield 58, 3) := by decide +kernel
theorem d7_144 : decode prog_14_method_3_code 144 = .ok (.iload 7, 2) := by decide +kernel
theorem d7_146 : decode prog_14_method_3_code 146 = .ok (.aload_n 0, 1) := by decide +kernel
theorem d7_147 : decode prog_14_method_3_code 147 = .ok (.getfield 54, 3) := by decide +kernel
theorem d7_150 : decode prog_14_method_3_code 150 = .ok (.iload 7, 2) := by decide +kernel
theorem d7_152 : decode prog_14_method_3_code 152 = .ok (.i2l, 1) := by decide +kernel
theorem d7_153 : decode prog_14_method_3_code 153 = .ok (.ladd, 1) := by decide +kernel
theorem d7_154 : decode prog_14_method_3_code 154 = .ok (.lastore, 1) := by decide +kernel
theorem d7_155 : decode prog_14_method_3_code 155 = .ok (.iinc 7 1, 3) := by decide +kernel
theorem d7_158 : decode prog_14_method_3_code 158 = .ok (.goto (-27), 3) := by decide +kernel
theorem d7_347 : decode prog_14_method_3_code 347 = .ok (.aload_n 0, 1) := by decide +kernel
theorem d7_348 : decode prog_14_method_3_code 348 = .ok (.getfield 58, 3) := by decide +kernel
theorem d7_351 : decode prog_14_method_3_code 351 = .ok (.iload 6, 2) := by decide +kernel
theorem d7_353 : decode prog_14_method_3_code 353 = .ok (.aload_n 0, 1) := by decide +kernel
theorem d7_354 : decode prog_14_method_3_code 354 = .ok (.getfield 58, 3) := by decide +kernel
theorem d7_357 : decode prog_14_method_3_code 357 = .ok (.iload 6, 2) := by decide +kernel
theorem d7_359 : decode prog_14_method_3_code 359 = .ok (.iconst 1, 1) := by decide +kernel
theorem d7_360 : decode prog_14_method_3_code 360 = .ok (.iadd, 1) := by decide +kernel
theorem d7_361 : decode prog_14_method_3_code 361 = .ok (.aload_n 0, 1) := by decide +kernel
theorem d7_362 : decode prog_14_method_3_code 362 = .ok (.getfield 36, 3) := by decide +kernel
theorem d7_365 : decode prog_14_method_3_code 365 = .ok (.iload 6, 2) := by decide +kernel
theorem d7_367 : decode prog_14_method_3_code 367 = .ok (.isub, 1) := by decide +kernel
theorem d7_368 : decode prog_14_method_3_code 368 = .ok (.invokestatic 73, 3) := by decide +kernel
theorem d7_371 : decode prog_14_method_3_code 371 = .ok (.aload_n 0, 1) := by decide +kernel
theorem d7_372 : decode prog_14_method_3_code 372 = .ok (.getfield 58, 3) := by decide +kernel
theorem d7_375 : decode prog_14_method_3_code 375 = .ok (.iload 6, 2) := by decide +kernel
theorem d7_377 : decode prog_14_method_3_code 377 = .ok (.lload 4, 2) := by decide +kernel
theorem d7_379 : decode prog_14_method_3_code 379 = .ok (.lastore, 1) := by decide +kernel
theorem d7_28 : decode prog_14_method_3_code 28 = .ok (.aload_n 0, 1) := by decide +kernel
theorem d7_29 : decode prog_14_method_3_code 29 = .ok (.getfield 11, 3) := by decide +kernel
theorem d7_32 : decode prog_14_method_3_code 32 = .ok (.iconst 0, 1) := by decide +kernel
theorem d7_33 : decode prog_14_method_3_code 33 = .ok (.aload_n 0, 1) := by decide +kernel
theorem d7_34 : decode prog_14_method_3_code 34 = .ok (.getfield 36, 3) := by decide +kernel
theorem d7_37 : decode prog_14_method_3_code 37 = .ok (.iload_n 1, 1) := by decide +kernel
theorem d7_38 : decode prog_14_method_3_code 38 = .ok (.invokestatic 39, 3) := by decide +kernel
theorem d7_41 : decode prog_14_method_3_code 41 = .ok (.istore 6, 2) := by decide +kernel
theorem d7_43 : decode prog_14_method_3_code 43 = .ok (.iload 6, 2) := by decide +kernel
theorem d7_45 : decode prog_14_method_3_code 45 = .ok (.ifCond .lt 17, 3) := by decide +kernel
theorem d7_62 : decode prog_14_method_3_code 62 = .ok (.iload 6, 2) := by decide +kernel
theorem d7_64 : decode prog_14_method_3_code 64 = .ok (.ineg, 1) := by decide +kernel
theorem d7_65 : decode prog_14_method_3_code 65 = .ok (.iconst 1, 1) := by decide +kernel
theorem d7_66 : decode prog_14_method_3_code 66 = .ok (.isub, 1) := by decide +kernel
theorem d7_67 : decode prog_14_method_3_code 67 = .ok (.istore 6, 2) := by decide +kernel
theorem d8_0 : decode prog_14_method_4_code 0 = .ok (.aload_n 0, 1) := by decide +kernel
theorem d8_1 : decode prog_14_method_4_code 1 = .ok (.getfield 11, 3) := by decide +kernel
theorem d8_4 : decode prog_14_method_4_code 4 = .ok (.iconst 0, 1) := by decide +kernel
theorem d8_5 : decode prog_14_method_4_code 5 = .ok (.aload_n 0, 1) := by decide +kernel
theorem d8_6 : decode prog_14_method_4_code 6 = .ok (.getfield 36, 3) := by decide +kernel
theorem d8_9 : decode prog_14_method_4_code 9 = .ok (.iload_n 1, 1) := by decide +kernel
theorem d8_10 : decode prog_14_method_4_code 10 = .ok (.invokestatic 39, 3) := by decide +kernel
theorem d8_13 : decode prog_14_method_4_code 13 = .ok (.istore_n 2, 1) := by decide +kernel
theorem d8_14 : decode prog_14_method_4_code 14 = .ok (.iload_n 2, 1) := by decide +kernel
theorem d8_15 : decode prog_14_method_4_code 15 = .ok (.ifCond .ge 17, 3) := by decide +kernel
theorem d8_32 : decode prog_14_method_4_code 32 = .ok (.aload_n 0, 1) := by decide +kernel
theorem d8_33 : decode prog_14_method_4_code 33 = .ok (.getfield 54, 3) := by decide +kernel
theorem d8_36 : decode prog_14_method_4_code 36 = .ok (.iload_n 2, 1) := by decide +kernel
theorem d8_37 : decode prog_14_method_4_code 37 = .ok (.i2l, 1) := by decide +kernel
theorem d8_38 : decode prog_14_method_4_code 38 = .ok (.ladd, 1) := by decide +kernel
theorem d8_39 : decode prog_14_method_4_code 39 = .ok (.lstore_n 3, 1) := by decide +kernel
theorem d8_40 : decode prog_14_method_4_code 40 = .ok (.aload_n 0, 1) := by decide +kernel
theorem d8_41 : decode prog_14_method_4_code 41 = .ok (.getfield 58, 3) := by decide +kernel
theorem d8_44 : decode prog_14_method_4_code 44 = .ok (.ifnull 10, 3) := by decide +kernel
theorem d8_54 : decode prog_14_method_4_code 54 = .ok (.lload_n 3, 1) := by decide +kernel
theorem d8_55 : decode prog_14_method_4_code 55 = .ok (.lreturn, 1) := by decide +kernel
theorem d8_47 : decode prog_14_method_4_code 47 = .ok (.aload_n 0, 1) := by decide +kernel
theorem d8_48 : decode prog_14_method_4_code 48 = .ok (.getfield 58, 3) := by decide +kernel
theorem d8_51 : decode prog_14_method_4_code 51 = .ok (.iload_n 2, 1) := by decide +kernel
theorem d8_52 : decode prog_14_method_4_code 52 = .ok (.laload, 1) := by decide +kernel
theorem d8_53 : decode prog_14_method_4_code 53 = .ok (.lstore_n 3, 1) := by decide +kernel
theorem pn_1370 : plainName "com/example/vestline/vestline/BuilderLineOfPinLaw" = true := by first | (simp [plainName, overriddenIn]; done) | decide +kernel
theorem pd_1551 : parseMethodDescriptor "(Ljava/util/List;)V" = some ⟨[(.object "java/util/List")], none⟩ := by decide +kernel
theorem pd_1555 : parseMethodDescriptor "(ILjava/math/BigDecimal;Ljava/util/List;J)V" = some ⟨[.int, (.object "java/math/BigDecimal"), (.object "java/util/List"), .long], none⟩ := by decide +kernel
theorem pd_1560 : parseMethodDescriptor "(I)J" = some ⟨[.int], some .long⟩ := by decide +kernel
abbrev fr_rc1 (m : MethodId)  (pc : Nat)  (st : List Value) : JFrame := mkF m pc #[.val (.int (8 : Int32)), .val (.int (0 : Int32)), .val (.int (1 : Int32))] st
def Q_rc1 (Z : State)  (h0 : Heap) (n0 : Nat) (v : Option Value) (h : Heap) (L : List Loc) : Prop := v = none ∧ Fr n0 L ∧ h = h0
theorem ef_rc1 (m : MethodId) (x0 : Int32) (x1 : Int32) (x2 : Int32)  : entryFrame m #[(.int x0), (.int x1), (.int x2)] 3 = mkF m 0 #[.val (.int x0), .val (.int x1), .val (.int x2)] [] := by first | (simp [entryFrame, mkF, argsToLocals, Value.category]; done) | rfl
set_option maxRecDepth 65536 in
set_option maxHeartbeats 40000000 in
theorem c_rc1 (l : Launch) (Z : State) (a0 : Array Value) (hw : ∀ d ∈ tables_1, d.before a0 Z = true) (ws : List Jvm.Cond)  (h0 : Heap) (n0 : Nat) (Z0 : n0 ≤ h0.size) :
  MetFree l (⟨"java/util/Arrays", "rangeCheck", "(III)V"⟩ : MethodName) (head1 (Jvm.Cond.code (⟨"java/util/Arrays", "rangeCheck", "(III)V"⟩ : MethodName) jdk_65_method_30_code 3 none :: ws) ({ frames := 0, cells := 0, slots := 0, locals := 0 } : Room)) (fun a U => a = #[(.int (8 : Int32)), (.int (0 : Int32)), (.int (1 : Int32))] ∧ Z.Warmed39 U.vm ∧ U.heap = h0) (fun _ _ _ _ _ => True) (fun _ U o U' => ∃ v L, o = .returned v ∧ (Q_rc1 Z  h0 n0) v U'.heap L ∧ FrameEnd U o U' L ({ frames := 0, cells := 0, slots := 0, locals := 0 } : Room).cells ({ frames := 0, cells := 0, slots := 0, locals := 0 } : Room).slots) := by
 refine MetFree.of_bodySF (plainFor_of_name pn_1) hisR ?_
 intro p e s m args below meth c s₁ Bd hml0 hP hK
 obtain ⟨rfl, hZ, hHp⟩ := hP
 have hx := Bd.exec
 have hby := Bd.bytes
 have hml : c.maxLocals = 3 := hml0
 have hown : s.vm.findClass "java/util/Arrays" = some m.cls := findClass_of_methodNamed Bd.named
 have hnm := (name_of_methodNamed Bd.named Bd.method).1
 have X0 : Stand p l e ({ frames := 0, cells := 0, slots := 0, locals := 0 } : Room) s m #[(.int (8 : Int32)), (.int (0 : Int32)), (.int (1 : Int32))] below meth c s₁ [] 0 0 := Stand.of_body Bd
 have e0 : s₁.heap = h0 := by rw [← hHp, Bd.state]; rfl
 have N0 := Fr.nil n0
 refine ownOut (P := (Q_rc1 Z  h0 n0)) ?_
 refine ownBy (A := s₁.setTop (mkF m 0 #[.val (.int (8 : Int32)), .val (.int (0 : Int32)), .val (.int (1 : Int32))] [])) (fun t k => castTop (ef_rc1 m (8 : Int32) (0 : Int32) (1 : Int32)) k) ?_
 refine ownBy (A := s₁.setTop (fr_rc1 m  73  [])) (fun t kt => ?_) ?_
 ·refine XS.iloadN X0.here hx rfl (hb hby d10_0) rfl ?_
  show Steps p.tables e below (s₁.setTop (fr_rc1 m  1  [(.int (0 : Int32))])) t
  refine XS.iloadN X0.here hx rfl (hb hby d10_1) rfl ?_
  show Steps p.tables e below (s₁.setTop (fr_rc1 m  2  [(.int (1 : Int32)), (.int (0 : Int32))])) t
  refine XS.icmpYes X0.here hx rfl (pc0 := 2) (pc' := 46) rfl (hb hby d10_2) rfl (flt ((by decide) : ¬ ((1 : Int32) < (0 : Int32)))).2.2.2 (by decide) (by decide) ?_
  show Steps p.tables e below (s₁.setTop (fr_rc1 m  46  [])) t
  refine XS.iloadN X0.here hx rfl (hb hby d10_46) rfl ?_
  show Steps p.tables e below (s₁.setTop (fr_rc1 m  47  [(.int (0 : Int32))])) t
  refine XS.ifYes X0.here hx rfl (pc0 := 47) (pc' := 59) rfl (hb hby d10_47) rfl ((if0 _ _).trans (flt ((by decide) : ¬ ((0 : Int32) < (0 : Int32)))).2.1) (by decide) (by decide) ?_
  show Steps p.tables e below (s₁.setTop (fr_rc1 m  59  [])) t
  refine XS.iloadN X0.here hx rfl (hb hby d10_59) rfl ?_
  show Steps p.tables e below (s₁.setTop (fr_rc1 m  60  [(.int (1 : Int32))])) t
  refine XS.iloadN X0.here hx rfl (hb hby d10_60) rfl ?_
  show Steps p.tables e below (s₁.setTop (fr_rc1 m  61  [(.int (8 : Int32)), (.int (1 : Int32))])) t
  refine XS.icmpYes X0.here hx rfl (pc0 := 61) (pc' := 73) rfl (hb hby d10_61) rfl (flt ((by decide) : ¬ ((8 : Int32) < (1 : Int32)))).2.2.2 (by decide) (by decide) ?_
  exact kt
 refine ownRet X0 Bd.notSynchronized (v := none) (fun _ => rfl) ?_ (oLe rfl) (oLe rfl) (fun fs hr => X0.returnOut hx Bd.returns (hb hby d10_73) hr)
 show (Q_rc1 Z  h0 n0) (none) s₁.heap _
 rw [e0]
 exact ⟨rfl, N0, rfl⟩
abbrev fr_bz1 (m : MethodId) (y : Addr) (p1 : Int32) (pc : Nat) (x4_ x5_ x6_ x7_ : Slot) (st : List Value) : JFrame := mkF m pc #[.val (.ref y), .val (.int (0 : Int32)), .val (.int (1 : Int32)), .val (.int p1), x4_, x5_, x6_, x7_] st
def Q_bz1 (Z : State) (y : Addr) (ky : ClassId) (z0 : Int32) (p1 : Int32) (h0 : Heap) (n0 : Nat) (v : Option Value) (h : Heap) (L : List Loc) : Prop := ∃ r : Int32, v = some (.int r) ∧ Fr n0 L ∧ h = h0 ∧ ((z0 < p1 ∧ r = (-2 : Int32)) ∨ (¬ (z0 < p1) ∧ p1 < z0 ∧ r = (-1 : Int32)) ∨ (¬ (z0 < p1) ∧ ¬ (p1 < z0) ∧ r = (0 : Int32)))
theorem ef_bz1 (m : MethodId) (x0 : Addr) (x1 : Int32) (x2 : Int32) (x3 : Int32)  : entryFrame m #[(.ref x0), (.int x1), (.int x2), (.int x3)] 8 = mkF m 0 #[.val (.ref x0), .val (.int x1), .val (.int x2), .val (.int x3), .unset, .unset, .unset, .unset] [] := by first | (simp [entryFrame, mkF, argsToLocals, Value.category]; done) | rfl
set_option maxRecDepth 65536 in
set_option maxHeartbeats 40000000 in
theorem c_bz1 (l : Launch) (Z : State) (a0 : Array Value) (hw : ∀ d ∈ tables_1, d.before a0 Z = true) (ws : List Jvm.Cond) (y : Addr) (ky : ClassId) (z0 : Int32) (p1 : Int32) (h0 : Heap) (n0 : Nat) (Z0 : n0 ≤ h0.size) (Ay : Arv Z h0 y ky .int (8 : Int32) [(.int z0), (.int (0 : Int32)), (.int (0 : Int32)), (.int (0 : Int32)), (.int (0 : Int32)), (.int (0 : Int32)), (.int (0 : Int32)), (.int (0 : Int32))] (.int (0 : Int32))) :
  MetFree l (⟨"java/util/Arrays", "binarySearch0", "([IIII)I"⟩ : MethodName) (head1 (Jvm.Cond.code (⟨"java/util/Arrays", "binarySearch0", "([IIII)I"⟩ : MethodName) jdk_65_method_59_code 8 (some .int) :: ws) ({ frames := 0, cells := 0, slots := 0, locals := 0 } : Room)) (fun a U => a = #[(.ref y), (.int (0 : Int32)), (.int (1 : Int32)), (.int p1)] ∧ Z.Warmed39 U.vm ∧ U.heap = h0) (fun _ _ _ _ _ => True) (fun _ U o U' => ∃ v L, o = .returned v ∧ (Q_bz1 Z y ky z0 p1 h0 n0) v U'.heap L ∧ FrameEnd U o U' L ({ frames := 0, cells := 0, slots := 0, locals := 0 } : Room).cells ({ frames := 0, cells := 0, slots := 0, locals := 0 } : Room).slots) := by
 refine MetFree.of_bodySF (plainFor_of_name pn_1) hisR ?_
 intro p e s m args below meth c s₁ Bd hml0 hP hK
 obtain ⟨rfl, hZ, hHp⟩ := hP
 have hx := Bd.exec
 have hby := Bd.bytes
 have hml : c.maxLocals = 8 := hml0
 have hown : s.vm.findClass "java/util/Arrays" = some m.cls := findClass_of_methodNamed Bd.named
 have hnm := (name_of_methodNamed Bd.named Bd.method).1
 have X0 : Stand p l e ({ frames := 0, cells := 0, slots := 0, locals := 0 } : Room) s m #[(.ref y), (.int (0 : Int32)), (.int (1 : Int32)), (.int p1)] below meth c s₁ [] 0 0 := Stand.of_body Bd
 have e0 : s₁.heap = h0 := by rw [← hHp, Bd.state]; rfl
 have N0 := Fr.nil n0
 refine ownOut (P := (Q_bz1 Z y ky z0 p1 h0 n0)) ?_
 refine ownBy (A := s₁.setTop (mkF m 0 #[.val (.ref y), .val (.int (0 : Int32)), .val (.int (1 : Int32)), .val (.int p1), .unset, .unset, .unset, .unset] [])) (fun t k => castTop (ef_bz1 m y (0 : Int32) (1 : Int32) p1) k) ?_
 refine ownBy (A := s₁.setTop (fr_bz1 m y p1 27 (.val (.int (0 : Int32))) (.val (.int (0 : Int32))) (.val (.int (0 : Int32))) .unset [(.int (0 : Int32)), (.ref y)])) (fun t kt => ?_) ?_
 ·refine XS.iloadN X0.here hx rfl (hb hby d11_0) rfl ?_
  show Steps p.tables e below (s₁.setTop (fr_bz1 m y p1 1 .unset .unset .unset .unset [(.int (0 : Int32))])) t
  refine XS.istore X0.here hx rfl (hb hby d11_1) rfl (l' := #[.val (.ref y), .val (.int (0 : Int32)), .val (.int (1 : Int32)), .val (.int p1), .val (.int (0 : Int32)), .unset, .unset, .unset]) rfl ?_
  show Steps p.tables e below (s₁.setTop (fr_bz1 m y p1 3 (.val (.int (0 : Int32))) .unset .unset .unset [])) t
  refine XS.iloadN X0.here hx rfl (hb hby d11_3) rfl ?_
  show Steps p.tables e below (s₁.setTop (fr_bz1 m y p1 4 (.val (.int (0 : Int32))) .unset .unset .unset [(.int (1 : Int32))])) t
  refine XS.iconst X0.here hx rfl (hb hby d11_4) ?_
  show Steps p.tables e below (s₁.setTop (fr_bz1 m y p1 5 (.val (.int (0 : Int32))) .unset .unset .unset [(.int (1 : Int32)), (.int (1 : Int32))])) t
  refine XS.isub X0.here hx rfl (hb hby d11_5) rfl ?_
  show Steps p.tables e below (s₁.setTop (fr_bz1 m y p1 6 (.val (.int (0 : Int32))) .unset .unset .unset [(.int (0 : Int32))])) t
  refine XS.istore X0.here hx rfl (hb hby d11_6) rfl (l' := #[.val (.ref y), .val (.int (0 : Int32)), .val (.int (1 : Int32)), .val (.int p1), .val (.int (0 : Int32)), .val (.int (0 : Int32)), .unset, .unset]) rfl ?_
  show Steps p.tables e below (s₁.setTop (fr_bz1 m y p1 8 (.val (.int (0 : Int32))) (.val (.int (0 : Int32))) .unset .unset [])) t
  refine XS.iload X0.here hx rfl (hb hby d11_8) rfl ?_
  show Steps p.tables e below (s₁.setTop (fr_bz1 m y p1 10 (.val (.int (0 : Int32))) (.val (.int (0 : Int32))) .unset .unset [(.int (0 : Int32))])) t
  refine XS.iload X0.here hx rfl (hb hby d11_10) rfl ?_
  show Steps p.tables e below (s₁.setTop (fr_bz1 m y p1 12 (.val (.int (0 : Int32))) (.val (.int (0 : Int32))) .unset .unset [(.int (0 : Int32)), (.int (0 : Int32))])) t
  refine XS.icmpNo X0.here hx rfl (hb hby d11_12) rfl (flt ((by decide) : ¬ ((0 : Int32) < (0 : Int32)))).2.2.1 ?_
  show Steps p.tables e below (s₁.setTop (fr_bz1 m y p1 15 (.val (.int (0 : Int32))) (.val (.int (0 : Int32))) .unset .unset [])) t
  refine XS.iload X0.here hx rfl (hb hby d11_15) rfl ?_
  show Steps p.tables e below (s₁.setTop (fr_bz1 m y p1 17 (.val (.int (0 : Int32))) (.val (.int (0 : Int32))) .unset .unset [(.int (0 : Int32))])) t
  refine XS.iload X0.here hx rfl (hb hby d11_17) rfl ?_
  show Steps p.tables e below (s₁.setTop (fr_bz1 m y p1 19 (.val (.int (0 : Int32))) (.val (.int (0 : Int32))) .unset .unset [(.int (0 : Int32)), (.int (0 : Int32))])) t
  refine XS.iadd X0.here hx rfl (hb hby d11_19) rfl ?_
  show Steps p.tables e below (s₁.setTop (fr_bz1 m y p1 20 (.val (.int (0 : Int32))) (.val (.int (0 : Int32))) .unset .unset [(.int (0 : Int32))])) t
  refine XS.iconst X0.here hx rfl (hb hby d11_20) ?_
  show Steps p.tables e below (s₁.setTop (fr_bz1 m y p1 21 (.val (.int (0 : Int32))) (.val (.int (0 : Int32))) .unset .unset [(.int (1 : Int32)), (.int (0 : Int32))])) t
  refine XS.iushr X0.here hx rfl (hb hby d11_21) rfl ?_
  show Steps p.tables e below (s₁.setTop (fr_bz1 m y p1 22 (.val (.int (0 : Int32))) (.val (.int (0 : Int32))) .unset .unset [(.int (0 : Int32))])) t
  refine XS.istore X0.here hx rfl (hb hby d11_22) rfl (l' := #[.val (.ref y), .val (.int (0 : Int32)), .val (.int (1 : Int32)), .val (.int p1), .val (.int (0 : Int32)), .val (.int (0 : Int32)), .val (.int (0 : Int32)), .unset]) rfl ?_
  show Steps p.tables e below (s₁.setTop (fr_bz1 m y p1 24 (.val (.int (0 : Int32))) (.val (.int (0 : Int32))) (.val (.int (0 : Int32))) .unset [])) t
  refine XS.aloadN X0.here hx rfl (hb hby d11_24) rfl rfl ?_
  show Steps p.tables e below (s₁.setTop (fr_bz1 m y p1 25 (.val (.int (0 : Int32))) (.val (.int (0 : Int32))) (.val (.int (0 : Int32))) .unset [(.ref y)])) t
  refine XS.iload X0.here hx rfl (hb hby d11_25) rfl ?_
  exact kt
 obtain ⟨cl2, Ar2, q2, S2, N2, H2, G2⟩ := id Ay
 have hin2 : ¬ ((0 : Int32) < 0 ∨ cl2.slots.size ≤ ((0 : Int32)).toNatClampNeg) := inb_of S2 ⟨by decide, by decide⟩
 have hat2 : cl2.slots[((0 : Int32)).toNatClampNeg]? = some (.int z0) := H2.at hin2 rfl
 have st2 := X0.iaload hx (j := (0 : Int32)) (v := (.int z0)) (by rw [e0]; exact Ar2.1) (State.isArrayOf_alike hZ.alike Ar2.2.1) Ar2.2.2 hin2 hat2 (g := (fr_bz1 m y p1 27 (.val (.int (0 : Int32))) (.val (.int (0 : Int32))) (.val (.int (0 : Int32))) .unset [(.int (0 : Int32)), (.ref y)])) rfl rfl (hb hby d11_27)
 refine ownBy st2 ?_
 show ownG p.tables e below _ (s₁.setTop (fr_bz1 m y p1 28 (.val (.int (0 : Int32))) (.val (.int (0 : Int32))) (.val (.int (0 : Int32))) .unset [(.int z0)]))
 refine ownBy (A := s₁.setTop (fr_bz1 m y p1 33 (.val (.int (0 : Int32))) (.val (.int (0 : Int32))) (.val (.int (0 : Int32))) (.val (.int z0)) [(.int p1), (.int z0)])) (fun t kt => ?_) ?_
 ·refine XS.istore X0.here hx rfl (hb hby d11_28) rfl (l' := #[.val (.ref y), .val (.int (0 : Int32)), .val (.int (1 : Int32)), .val (.int p1), .val (.int (0 : Int32)), .val (.int (0 : Int32)), .val (.int (0 : Int32)), .val (.int z0)]) rfl ?_
  show Steps p.tables e below (s₁.setTop (fr_bz1 m y p1 30 (.val (.int (0 : Int32))) (.val (.int (0 : Int32))) (.val (.int (0 : Int32))) (.val (.int z0)) [])) t
  refine XS.iload X0.here hx rfl (hb hby d11_30) rfl ?_
  show Steps p.tables e below (s₁.setTop (fr_bz1 m y p1 32 (.val (.int (0 : Int32))) (.val (.int (0 : Int32))) (.val (.int (0 : Int32))) (.val (.int z0)) [(.int z0)])) t
  refine XS.iloadN X0.here hx rfl (hb hby d11_32) rfl ?_
  exact kt
 by_cases hc3 : z0 < p1
 ·skip
  refine ownBy (A := s₁.setTop (fr_bz1 m y p1 71 (.val (.int (1 : Int32))) (.val (.int (0 : Int32))) (.val (.int (0 : Int32))) (.val (.int z0)) [(.int (-2 : Int32))])) (fun t kt => ?_) ?_
  ·refine XS.icmpNo X0.here hx rfl (hb hby d11_33) rfl (tlt hc3).2.1 ?_
   show Steps p.tables e below (s₁.setTop (fr_bz1 m y p1 36 (.val (.int (0 : Int32))) (.val (.int (0 : Int32))) (.val (.int (0 : Int32))) (.val (.int z0)) [])) t
   refine XS.iload X0.here hx rfl (hb hby d11_36) rfl ?_
   show Steps p.tables e below (s₁.setTop (fr_bz1 m y p1 38 (.val (.int (0 : Int32))) (.val (.int (0 : Int32))) (.val (.int (0 : Int32))) (.val (.int z0)) [(.int (0 : Int32))])) t
   refine XS.iconst X0.here hx rfl (hb hby d11_38) ?_
   show Steps p.tables e below (s₁.setTop (fr_bz1 m y p1 39 (.val (.int (0 : Int32))) (.val (.int (0 : Int32))) (.val (.int (0 : Int32))) (.val (.int z0)) [(.int (1 : Int32)), (.int (0 : Int32))])) t
   refine XS.iadd X0.here hx rfl (hb hby d11_39) rfl ?_
   show Steps p.tables e below (s₁.setTop (fr_bz1 m y p1 40 (.val (.int (0 : Int32))) (.val (.int (0 : Int32))) (.val (.int (0 : Int32))) (.val (.int z0)) [(.int (1 : Int32))])) t
   refine XS.istore X0.here hx rfl (hb hby d11_40) rfl (l' := #[.val (.ref y), .val (.int (0 : Int32)), .val (.int (1 : Int32)), .val (.int p1), .val (.int (1 : Int32)), .val (.int (0 : Int32)), .val (.int (0 : Int32)), .val (.int z0)]) rfl ?_
   show Steps p.tables e below (s₁.setTop (fr_bz1 m y p1 42 (.val (.int (1 : Int32))) (.val (.int (0 : Int32))) (.val (.int (0 : Int32))) (.val (.int z0)) [])) t
   refine XS.goto X0.here hx rfl (pc0 := 42) (pc' := 63) rfl (hb hby d11_42) (by decide) (by decide) ?_
   show Steps p.tables e below (s₁.setTop (fr_bz1 m y p1 63 (.val (.int (1 : Int32))) (.val (.int (0 : Int32))) (.val (.int (0 : Int32))) (.val (.int z0)) [])) t
   refine XS.goto X0.here hx rfl (pc0 := 63) (pc' := 8) rfl (hb hby d11_63) (by decide) (by decide) ?_
   show Steps p.tables e below (s₁.setTop (fr_bz1 m y p1 8 (.val (.int (1 : Int32))) (.val (.int (0 : Int32))) (.val (.int (0 : Int32))) (.val (.int z0)) [])) t
   refine XS.iload X0.here hx rfl (hb hby d11_8) rfl ?_
   show Steps p.tables e below (s₁.setTop (fr_bz1 m y p1 10 (.val (.int (1 : Int32))) (.val (.int (0 : Int32))) (.val (.int (0 : Int32))) (.val (.int z0)) [(.int (1 : Int32))])) t
   refine XS.iload X0.here hx rfl (hb hby d11_10) rfl ?_
   show Steps p.tables e below (s₁.setTop (fr_bz1 m y p1 12 (.val (.int (1 : Int32))) (.val (.int (0 : Int32))) (.val (.int (0 : Int32))) (.val (.int z0)) [(.int (0 : Int32)), (.int (1 : Int32))])) t
   refine XS.icmpYes X0.here hx rfl (pc0 := 12) (pc' := 66) rfl (hb hby d11_12) rfl (tlt ((by decide) : (0 : Int32) < (1 : Int32))).2.2.1 (by decide) (by decide) ?_
   show Steps p.tables e below (s₁.setTop (fr_bz1 m y p1 66 (.val (.int (1 : Int32))) (.val (.int (0 : Int32))) (.val (.int (0 : Int32))) (.val (.int z0)) [])) t
   refine XS.iload X0.here hx rfl (hb hby d11_66) rfl ?_
   show Steps p.tables e below (s₁.setTop (fr_bz1 m y p1 68 (.val (.int (1 : Int32))) (.val (.int (0 : Int32))) (.val (.int (0 : Int32))) (.val (.int z0)) [(.int (1 : Int32))])) t
   refine XS.iconst X0.here hx rfl (hb hby d11_68) ?_
   show Steps p.tables e below (s₁.setTop (fr_bz1 m y p1 69 (.val (.int (1 : Int32))) (.val (.int (0 : Int32))) (.val (.int (0 : Int32))) (.val (.int z0)) [(.int (1 : Int32)), (.int (1 : Int32))])) t
   refine XS.iadd X0.here hx rfl (hb hby d11_69) rfl ?_
   show Steps p.tables e below (s₁.setTop (fr_bz1 m y p1 70 (.val (.int (1 : Int32))) (.val (.int (0 : Int32))) (.val (.int (0 : Int32))) (.val (.int z0)) [(.int (2 : Int32))])) t
   refine XS.ineg X0.here hx rfl (hb hby d11_70) rfl ?_
   exact kt
  refine ownRet X0 Bd.notSynchronized (v := some (.int (-2 : Int32))) (fun h => by rw [Bd.returns] at h; cases h) ?_ (oLe rfl) (oLe rfl) (fun fs hr => retI X0 hx Bd.returns (hb hby d11_71) hr)
  show (Q_bz1 Z y ky z0 p1 h0 n0) (some (.int (-2 : Int32))) s₁.heap _
  rw [e0]
  exact ⟨_, rfl, N0, rfl, Or.inl ⟨hc3, rfl⟩⟩
 ·skip
  refine ownBy (A := s₁.setTop (fr_bz1 m y p1 48 (.val (.int (0 : Int32))) (.val (.int (0 : Int32))) (.val (.int (0 : Int32))) (.val (.int z0)) [(.int p1), (.int z0)])) (fun t kt => ?_) ?_
  ·refine XS.icmpYes X0.here hx rfl (pc0 := 33) (pc' := 45) rfl (hb hby d11_33) rfl (flt hc3).2.1 (by decide) (by decide) ?_
   show Steps p.tables e below (s₁.setTop (fr_bz1 m y p1 45 (.val (.int (0 : Int32))) (.val (.int (0 : Int32))) (.val (.int (0 : Int32))) (.val (.int z0)) [])) t
   refine XS.iload X0.here hx rfl (hb hby d11_45) rfl ?_
   show Steps p.tables e below (s₁.setTop (fr_bz1 m y p1 47 (.val (.int (0 : Int32))) (.val (.int (0 : Int32))) (.val (.int (0 : Int32))) (.val (.int z0)) [(.int z0)])) t
   refine XS.iloadN X0.here hx rfl (hb hby d11_47) rfl ?_
   exact kt
  by_cases hc4 : p1 < z0
  ·skip
   refine ownBy (A := s₁.setTop (fr_bz1 m y p1 71 (.val (.int (0 : Int32))) (.val (.int (-1 : Int32))) (.val (.int (0 : Int32))) (.val (.int z0)) [(.int (-1 : Int32))])) (fun t kt => ?_) ?_
   ·refine XS.icmpNo X0.here hx rfl (hb hby d11_48) rfl (tlt hc4).2.2.2 ?_
    show Steps p.tables e below (s₁.setTop (fr_bz1 m y p1 51 (.val (.int (0 : Int32))) (.val (.int (0 : Int32))) (.val (.int (0 : Int32))) (.val (.int z0)) [])) t
    refine XS.iload X0.here hx rfl (hb hby d11_51) rfl ?_
    show Steps p.tables e below (s₁.setTop (fr_bz1 m y p1 53 (.val (.int (0 : Int32))) (.val (.int (0 : Int32))) (.val (.int (0 : Int32))) (.val (.int z0)) [(.int (0 : Int32))])) t
    refine XS.iconst X0.here hx rfl (hb hby d11_53) ?_
    show Steps p.tables e below (s₁.setTop (fr_bz1 m y p1 54 (.val (.int (0 : Int32))) (.val (.int (0 : Int32))) (.val (.int (0 : Int32))) (.val (.int z0)) [(.int (1 : Int32)), (.int (0 : Int32))])) t
    refine XS.isub X0.here hx rfl (hb hby d11_54) rfl ?_
    show Steps p.tables e below (s₁.setTop (fr_bz1 m y p1 55 (.val (.int (0 : Int32))) (.val (.int (0 : Int32))) (.val (.int (0 : Int32))) (.val (.int z0)) [(.int (-1 : Int32))])) t
    refine XS.istore X0.here hx rfl (hb hby d11_55) rfl (l' := #[.val (.ref y), .val (.int (0 : Int32)), .val (.int (1 : Int32)), .val (.int p1), .val (.int (0 : Int32)), .val (.int (-1 : Int32)), .val (.int (0 : Int32)), .val (.int z0)]) rfl ?_
    show Steps p.tables e below (s₁.setTop (fr_bz1 m y p1 57 (.val (.int (0 : Int32))) (.val (.int (-1 : Int32))) (.val (.int (0 : Int32))) (.val (.int z0)) [])) t
    refine XS.goto X0.here hx rfl (pc0 := 57) (pc' := 63) rfl (hb hby d11_57) (by decide) (by decide) ?_
    show Steps p.tables e below (s₁.setTop (fr_bz1 m y p1 63 (.val (.int (0 : Int32))) (.val (.int (-1 : Int32))) (.val (.int (0 : Int32))) (.val (.int z0)) [])) t
    refine XS.goto X0.here hx rfl (pc0 := 63) (pc' := 8) rfl (hb hby d11_63) (by decide) (by decide) ?_
    show Steps p.tables e below (s₁.setTop (fr_bz1 m y p1 8 (.val (.int (0 : Int32))) (.val (.int (-1 : Int32))) (.val (.int (0 : Int32))) (.val (.int z0)) [])) t
    refine XS.iload X0.here hx rfl (hb hby d11_8) rfl ?_
    show Steps p.tables e below (s₁.setTop (fr_bz1 m y p1 10 (.val (.int (0 : Int32))) (.val (.int (-1 : Int32))) (.val (.int (0 : Int32))) (.val (.int z0)) [(.int (0 : Int32))])) t
    refine XS.iload X0.here hx rfl (hb hby d11_10) rfl ?_
    show Steps p.tables e below (s₁.setTop (fr_bz1 m y p1 12 (.val (.int (0 : Int32))) (.val (.int (-1 : Int32))) (.val (.int (0 : Int32))) (.val (.int z0)) [(.int (-1 : Int32)), (.int (0 : Int32))])) t
    refine XS.icmpYes X0.here hx rfl (pc0 := 12) (pc' := 66) rfl (hb hby d11_12) rfl (tlt ((by decide) : (-1 : Int32) < (0 : Int32))).2.2.1 (by decide) (by decide) ?_
    show Steps p.tables e below (s₁.setTop (fr_bz1 m y p1 66 (.val (.int (0 : Int32))) (.val (.int (-1 : Int32))) (.val (.int (0 : Int32))) (.val (.int z0)) [])) t
    refine XS.iload X0.here hx rfl (hb hby d11_66) rfl ?_
    show Steps p.tables e below (s₁.setTop (fr_bz1 m y p1 68 (.val (.int (0 : Int32))) (.val (.int (-1 : Int32))) (.val (.int (0 : Int32))) (.val (.int z0)) [(.int (0 : Int32))])) t
    refine XS.iconst X0.here hx rfl (hb hby d11_68) ?_
    show Steps p.tables e below (s₁.setTop (fr_bz1 m y p1 69 (.val (.int (0 : Int32))) (.val (.int (-1 : Int32))) (.val (.int (0 : Int32))) (.val (.int z0)) [(.int (1 : Int32)), (.int (0 : Int32))])) t
    refine XS.iadd X0.here hx rfl (hb hby d11_69) rfl ?_
    show Steps p.tables e below (s₁.setTop (fr_bz1 m y p1 70 (.val (.int (0 : Int32))) (.val (.int (-1 : Int32))) (.val (.int (0 : Int32))) (.val (.int z0)) [(.int (1 : Int32))])) t
    refine XS.ineg X0.here hx rfl (hb hby d11_70) rfl ?_
    exact kt
   refine ownRet X0 Bd.notSynchronized (v := some (.int (-1 : Int32))) (fun h => by rw [Bd.returns] at h; cases h) ?_ (oLe rfl) (oLe rfl) (fun fs hr => retI X0 hx Bd.returns (hb hby d11_71) hr)
   show (Q_bz1 Z y ky z0 p1 h0 n0) (some (.int (-1 : Int32))) s₁.heap _
   rw [e0]
   exact ⟨_, rfl, N0, rfl, Or.inr (Or.inl ⟨hc3, hc4, rfl⟩)⟩
  ·skip
   refine ownBy (A := s₁.setTop (fr_bz1 m y p1 62 (.val (.int (0 : Int32))) (.val (.int (0 : Int32))) (.val (.int (0 : Int32))) (.val (.int z0)) [(.int (0 : Int32))])) (fun t kt => ?_) ?_
   ·refine XS.icmpYes X0.here hx rfl (pc0 := 48) (pc' := 60) rfl (hb hby d11_48) rfl (flt hc4).2.2.2 (by decide) (by decide) ?_
    show Steps p.tables e below (s₁.setTop (fr_bz1 m y p1 60 (.val (.int (0 : Int32))) (.val (.int (0 : Int32))) (.val (.int (0 : Int32))) (.val (.int z0)) [])) t
    refine XS.iload X0.here hx rfl (hb hby d11_60) rfl ?_
    exact kt
   refine ownRet X0 Bd.notSynchronized (v := some (.int (0 : Int32))) (fun h => by rw [Bd.returns] at h; cases h) ?_ (oLe rfl) (oLe rfl) (fun fs hr => retI X0 hx Bd.returns (hb hby d11_62) hr)
   show (Q_bz1 Z y ky z0 p1 h0 n0) (some (.int (0 : Int32))) s₁.heap _
   rw [e0]
   exact ⟨_, rfl, N0, rfl, Or.inr (Or.inr (⟨hc3, hc4, rfl⟩))⟩
abbrev fr_bs1 (m : MethodId) (y : Addr) (p1 : Int32) (pc : Nat)  (st : List Value) : JFrame := mkF m pc #[.val (.ref y), .val (.int (0 : Int32)), .val (.int (1 : Int32)), .val (.int p1)] st
def Q_bs1 (Z : State) (y : Addr) (ky : ClassId) (z0 : Int32) (p1 : Int32) (h0 : Heap) (n0 : Nat) (v : Option Value) (h : Heap) (L : List Loc) : Prop := ∃ r : Int32, v = some (.int r) ∧ Fr n0 L ∧ h = h0 ∧ ((z0 < p1 ∧ r = (-2 : Int32)) ∨ (¬ (z0 < p1) ∧ p1 < z0 ∧ r = (-1 : Int32)) ∨ (¬ (z0 < p1) ∧ ¬ (p1 < z0) ∧ r = (0 : Int32)))
theorem ef_bs1 (m : MethodId) (x0 : Addr) (x1 : Int32) (x2 : Int32) (x3 : Int32)  : entryFrame m #[(.ref x0), (.int x1), (.int x2), (.int x3)] 4 = mkF m 0 #[.val (.ref x0), .val (.int x1), .val (.int x2), .val (.int x3)] [] := by first | (simp [entryFrame, mkF, argsToLocals, Value.category]; done) | rfl
set_option maxRecDepth 65536 in
set_option maxHeartbeats 40000000 in
theorem c_bs1 (l : Launch) (Z : State) (a0 : Array Value) (hw : ∀ d ∈ tables_1, d.before a0 Z = true) (ws : List Jvm.Cond) (y : Addr) (ky : ClassId) (z0 : Int32) (p1 : Int32) (h0 : Heap) (n0 : Nat) (Z0 : n0 ≤ h0.size) (Ay : Arv Z h0 y ky .int (8 : Int32) [(.int z0), (.int (0 : Int32)), (.int (0 : Int32)), (.int (0 : Int32)), (.int (0 : Int32)), (.int (0 : Int32)), (.int (0 : Int32)), (.int (0 : Int32))] (.int (0 : Int32))) :
  MetFree l (⟨"java/util/Arrays", "binarySearch", "([IIII)I"⟩ : MethodName) (head1 (Jvm.Cond.code (⟨"java/util/Arrays", "binarySearch", "([IIII)I"⟩ : MethodName) jdk_65_method_58_code 4 (some .int) :: ws) ({ frames := 1, cells := 0, slots := 0, locals := 19 } : Room)) (fun a U => a = #[(.ref y), (.int (0 : Int32)), (.int (1 : Int32)), (.int p1)] ∧ Z.Warmed39 U.vm ∧ U.heap = h0) (fun _ _ _ _ _ => True) (fun _ U o U' => ∃ v L, o = .returned v ∧ (Q_bs1 Z y ky z0 p1 h0 n0) v U'.heap L ∧ FrameEnd U o U' L ({ frames := 1, cells := 0, slots := 0, locals := 19 } : Room).cells ({ frames := 1, cells := 0, slots := 0, locals := 19 } : Room).slots) := by
 refine MetFree.of_bodySF (plainFor_of_name pn_1) hisR ?_
 intro p e s m args below meth c s₁ Bd hml0 hP hK
 obtain ⟨rfl, hZ, hHp⟩ := hP
 have hx := Bd.exec
 have hby := Bd.bytes
 have hml : c.maxLocals = 4 := hml0
 have hown : s.vm.findClass "java/util/Arrays" = some m.cls := findClass_of_methodNamed Bd.named
 have hnm := (name_of_methodNamed Bd.named Bd.method).1
 have X0 : Stand p l e ({ frames := 1, cells := 0, slots := 0, locals := 19 } : Room) s m #[(.ref y), (.int (0 : Int32)), (.int (1 : Int32)), (.int p1)] below meth c s₁ [] 0 0 := Stand.of_body Bd
 have e0 : s₁.heap = h0 := by rw [← hHp, Bd.state]; rfl
 have N0 := Fr.nil n0
 refine ownOut (P := (Q_bs1 Z y ky z0 p1 h0 n0)) ?_
 refine ownBy (A := s₁.setTop (mkF m 0 #[.val (.ref y), .val (.int (0 : Int32)), .val (.int (1 : Int32)), .val (.int p1)] [])) (fun t k => castTop (ef_bs1 m y (0 : Int32) (1 : Int32) p1) k) ?_
 refine ownBy (A := s₁.setTop (fr_bs1 m y p1 1  [(.ref y)])) (fun t kt => ?_) ?_
 ·refine XS.aloadN X0.here hx rfl (hb hby d9_0) rfl rfl ?_
  exact kt
 obtain ⟨cl5, Ar5, -, S5, N5, -, -⟩ := id Ay
 have st5 := X0.arraylength hx (by rw [e0]; exact Ar5.1) (State.isArrayOf_alike hZ.alike Ar5.2.1) (g := (fr_bs1 m y p1 1  [(.ref y)])) rfl rfl (hb hby d9_1)
 rw [len_of S5 N5] at st5
 refine ownBy st5 ?_
 show ownG p.tables e below _ (s₁.setTop (fr_bs1 m y p1 2  [(.int (8 : Int32))]))
 refine ownBy (A := s₁.setTop (fr_bs1 m y p1 4  [(.int (1 : Int32)), (.int (0 : Int32)), (.int (8 : Int32))])) (fun t kt => ?_) ?_
 ·refine XS.iloadN X0.here hx rfl (hb hby d9_2) rfl ?_
  show Steps p.tables e below (s₁.setTop (fr_bs1 m y p1 3  [(.int (0 : Int32)), (.int (8 : Int32))])) t
  refine XS.iloadN X0.here hx rfl (hb hby d9_3) rfl ?_
  exact kt
 obtain ⟨vv6, _, ⟨T6, L6, k6, n6⟩, -, X6, ⟨Lc6, hQ6, l6, y6, z6⟩, st6⟩ := Jvm.LawKit.callS X0 hx (y := (⟨"java/util/Arrays", "rangeCheck", "(III)V"⟩ : MethodName)) hown (mvT hZ (Wd83 hw)) (mvT hZ (Wd84 hw)) (mvT hZ (Wd81 hw)) (mvT hZ (Wd85 hw)) (by decide) (backOf (W := 0) (c_rc1 l Z a0 hw []  h0 n0 Z0 ) hZ (Wd85 hw) (Wd81 hw) (by decide) (by decide)) (g := (fr_bs1 m y p1 4  [(.int (1 : Int32)), (.int (0 : Int32)), (.int (8 : Int32))])) rfl (by rw [hml]; rfl) (argsL := [(.int (8 : Int32)), (.int (0 : Int32)), (.int (1 : Int32))]) (rest := []) (lenOf pd_7 rfl) rfl (by show 2 * 0 + _ ≤ _; exact Nat.le_of_eq rfl) (hb hby d9_4) (fun _ _ => ⟨rfl, e0, (by decide : 0 + 0 ≤ _), (by decide : 0 + 0 ≤ _)⟩)
 dsimp only [Pt.U, Pt.locs, Pt.cells, Pt.slots] at X6 l6 y6 z6 st6 hQ6
 subst l6 y6 z6
 obtain ⟨rfl, Nq6, Eq6⟩ := hQ6
 have N8 := Fr.app N0 Nq6
 obtain ⟨Lh9, Xh9, Nh9⟩ := oHd 0 0 X6 N8 rfl rfl
 refine ownBy st6 ?_
 clear st6
 show ownG p.tables e below _ (T6.setTop (fr_bs1 m y p1 7  []))
 refine ownBy (A := T6.setTop (fr_bs1 m y p1 11  [(.int p1), (.int (1 : Int32)), (.int (0 : Int32)), (.ref y)])) (fun t kt => ?_) ?_
 ·refine XS.aloadN Xh9.here hx rfl (hb hby d9_7) rfl rfl ?_
  show Steps p.tables e below (T6.setTop (fr_bs1 m y p1 8  [(.ref y)])) t
  refine XS.iloadN Xh9.here hx rfl (hb hby d9_8) rfl ?_
  show Steps p.tables e below (T6.setTop (fr_bs1 m y p1 9  [(.int (0 : Int32)), (.ref y)])) t
  refine XS.iloadN Xh9.here hx rfl (hb hby d9_9) rfl ?_
  show Steps p.tables e below (T6.setTop (fr_bs1 m y p1 10  [(.int (1 : Int32)), (.int (0 : Int32)), (.ref y)])) t
  refine XS.iloadN Xh9.here hx rfl (hb hby d9_10) rfl ?_
  exact kt
 obtain ⟨vv10, _, ⟨T10, L10, k10, n10⟩, -, X10, ⟨Lc10, hQ10, l10, y10, z10⟩, st10⟩ := Jvm.LawKit.callS Xh9 hx (y := (⟨"java/util/Arrays", "binarySearch0", "([IIII)I"⟩ : MethodName)) hown (mvT hZ (Wd86 hw)) (mvT hZ (Wd87 hw)) (mvT hZ (Wd81 hw)) (mvT hZ (Wd88 hw)) (by decide) (backOf (W := 0) (c_bz1 l Z a0 hw [] y ky z0 p1 h0 n0 Z0 Ay) hZ (Wd88 hw) (Wd81 hw) (by decide) (by decide)) (g := (fr_bs1 m y p1 11  [(.int p1), (.int (1 : Int32)), (.int (0 : Int32)), (.ref y)])) rfl (by rw [hml]; rfl) (argsL := [(.ref y), (.int (0 : Int32)), (.int (1 : Int32)), (.int p1)]) (rest := []) (lenOf pd_11 rfl) rfl (by show 2 * 0 + _ ≤ _; exact Nat.le_of_eq rfl) (hb hby d9_11) (fun _ _ => ⟨rfl, Eq6, (by decide : 0 + 0 ≤ _), (by decide : 0 + 0 ≤ _)⟩)
 dsimp only [Pt.U, Pt.locs, Pt.cells, Pt.slots] at X10 l10 y10 z10 st10 hQ10
 subst l10 y10 z10
 obtain ⟨r10, rfl, Nq10, Eq10, hB10⟩ := hQ10
 have N12 := Fr.app Nh9 Nq10
 obtain ⟨Lh13, Xh13, Nh13⟩ := oHd 0 0 X10 N12 rfl rfl
 refine ownBy st10 ?_
 clear st10
 show ownG p.tables e below _ (T10.setTop (fr_bs1 m y p1 14  [(.int r10)]))
 refine ownRet Xh13 Bd.notSynchronized (v := some (.int r10)) (fun h => by rw [Bd.returns] at h; cases h) ?_ (oLe rfl) (oLe rfl) (fun fs hr => retI Xh13 hx Bd.returns (hb hby d9_14) hr)
 show (Q_bs1 Z y ky z0 p1 h0 n0) (some (.int r10)) T10.heap _
 rw [Eq10]
 exact ⟨_, rfl, Nh13, rfl, hB10⟩
abbrev fr_rc2 (m : MethodId)  (pc : Nat)  (st : List Value) : JFrame := mkF m pc #[.val (.int (8 : Int32)), .val (.int (0 : Int32)), .val (.int (2 : Int32))] st
def Q_rc2 (Z : State)  (h0 : Heap) (n0 : Nat) (v : Option Value) (h : Heap) (L : List Loc) : Prop := v = none ∧ Fr n0 L ∧ h = h0
theorem ef_rc2 (m : MethodId) (x0 : Int32) (x1 : Int32) (x2 : Int32)  : entryFrame m #[(.int x0), (.int x1), (.int x2)] 3 = mkF m 0 #[.val (.int x0), .val (.int x1), .val (.int x2)] [] := by first | (simp [entryFrame, mkF, argsToLocals, Value.category]; done) | rfl
set_option maxRecDepth 65536 in
set_option maxHeartbeats 40000000 in
theorem c_rc2 (l : Launch) (Z : State) (a0 : Array Value) (hw : ∀ d ∈ tables_1, d.before a0 Z = true) (ws : List Jvm.Cond)  (h0 : Heap) (n0 : Nat) (Z0 : n0 ≤ h0.size) :
  MetFree l (⟨"java/util/Arrays", "rangeCheck", "(III)V"⟩ : MethodName) (head1 (Jvm.Cond.code (⟨"java/util/Arrays", "rangeCheck", "(III)V"⟩ : MethodName) jdk_65_method_30_code 3 none :: ws) ({ frames := 0, cells := 0, slots := 0, locals := 0 } : Room)) (fun a U => a = #[(.int (8 : Int32)), (.int (0 : Int32)), (.int (2 : Int32))] ∧ Z.Warmed39 U.vm ∧ U.heap = h0) (fun _ _ _ _ _ => True) (fun _ U o U' => ∃ v L, o = .returned v ∧ (Q_rc2 Z  h0 n0) v U'.heap L ∧ FrameEnd U o U' L ({ frames := 0, cells := 0, slots := 0, locals := 0 } : Room).cells ({ frames := 0, cells := 0, slots := 0, locals := 0 } : Room).slots) := by
 refine MetFree.of_bodySF (plainFor_of_name pn_1) hisR ?_
 intro p e s m args below meth c s₁ Bd hml0 hP hK
 obtain ⟨rfl, hZ, hHp⟩ := hP
 have hx := Bd.exec
 have hby := Bd.bytes
 have hml : c.maxLocals = 3 := hml0
 have hown : s.vm.findClass "java/util/Arrays" = some m.cls := findClass_of_methodNamed Bd.named
 have hnm := (name_of_methodNamed Bd.named Bd.method).1
 have X0 : Stand p l e ({ frames := 0, cells := 0, slots := 0, locals := 0 } : Room) s m #[(.int (8 : Int32)), (.int (0 : Int32)), (.int (2 : Int32))] below meth c s₁ [] 0 0 := Stand.of_body Bd
 have e0 : s₁.heap = h0 := by rw [← hHp, Bd.state]; rfl
 have N0 := Fr.nil n0
 refine ownOut (P := (Q_rc2 Z  h0 n0)) ?_
 refine ownBy (A := s₁.setTop (mkF m 0 #[.val (.int (8 : Int32)), .val (.int (0 : Int32)), .val (.int (2 : Int32))] [])) (fun t k => castTop (ef_rc2 m (8 : Int32) (0 : Int32) (2 : Int32)) k) ?_
 refine ownBy (A := s₁.setTop (fr_rc2 m  73  [])) (fun t kt => ?_) ?_
 ·refine XS.iloadN X0.here hx rfl (hb hby d10_0) rfl ?_
  show Steps p.tables e below (s₁.setTop (fr_rc2 m  1  [(.int (0 : Int32))])) t
  refine XS.iloadN X0.here hx rfl (hb hby d10_1) rfl ?_
  show Steps p.tables e below (s₁.setTop (fr_rc2 m  2  [(.int (2 : Int32)), (.int (0 : Int32))])) t
  refine XS.icmpYes X0.here hx rfl (pc0 := 2) (pc' := 46) rfl (hb hby d10_2) rfl (flt ((by decide) : ¬ ((2 : Int32) < (0 : Int32)))).2.2.2 (by decide) (by decide) ?_
  show Steps p.tables e below (s₁.setTop (fr_rc2 m  46  [])) t
  refine XS.iloadN X0.here hx rfl (hb hby d10_46) rfl ?_
  show Steps p.tables e below (s₁.setTop (fr_rc2 m  47  [(.int (0 : Int32))])) t
  refine XS.ifYes X0.here hx rfl (pc0 := 47) (pc' := 59) rfl (hb hby d10_47) rfl ((if0 _ _).trans (flt ((by decide) : ¬ ((0 : Int32) < (0 : Int32)))).2.1) (by decide) (by decide) ?_
  show Steps p.tables e below (s₁.setTop (fr_rc2 m  59  [])) t
  refine XS.iloadN X0.here hx rfl (hb hby d10_59) rfl ?_
  show Steps p.tables e below (s₁.setTop (fr_rc2 m  60  [(.int (2 : Int32))])) t
  refine XS.iloadN X0.here hx rfl (hb hby d10_60) rfl ?_
  show Steps p.tables e below (s₁.setTop (fr_rc2 m  61  [(.int (8 : Int32)), (.int (2 : Int32))])) t
  refine XS.icmpYes X0.here hx rfl (pc0 := 61) (pc' := 73) rfl (hb hby d10_61) rfl (flt ((by decide) : ¬ ((8 : Int32) < (2 : Int32)))).2.2.2 (by decide) (by decide) ?_
  exact kt
 refine ownRet X0 Bd.notSynchronized (v := none) (fun _ => rfl) ?_ (oLe rfl) (oLe rfl) (fun fs hr => X0.returnOut hx Bd.returns (hb hby d10_73) hr)
 show (Q_rc2 Z  h0 n0) (none) s₁.heap _
 rw [e0]
 exact ⟨rfl, N0, rfl⟩
abbrev fr_bz2 (m : MethodId) (y : Addr) (p1 : Int32) (pc : Nat) (x4_ x5_ x6_ x7_ : Slot) (st : List Value) : JFrame := mkF m pc #[.val (.ref y), .val (.int (0 : Int32)), .val (.int (2 : Int32)), .val (.int p1), x4_, x5_, x6_, x7_] st
def Q_bz2 (Z : State) (y : Addr) (ky : ClassId) (z0 : Int32) (z1 : Int32) (p1 : Int32) (h0 : Heap) (n0 : Nat) (v : Option Value) (h : Heap) (L : List Loc) : Prop := ∃ r : Int32, v = some (.int r) ∧ Fr n0 L ∧ h = h0 ∧ ((z0 < p1 ∧ z1 < p1 ∧ r = (-3 : Int32)) ∨ (z0 < p1 ∧ ¬ (z1 < p1) ∧ p1 < z1 ∧ r = (-2 : Int32)) ∨ (z0 < p1 ∧ ¬ (z1 < p1) ∧ ¬ (p1 < z1) ∧ r = (1 : Int32)) ∨ (¬ (z0 < p1) ∧ p1 < z0 ∧ r = (-1 : Int32)) ∨ (¬ (z0 < p1) ∧ ¬ (p1 < z0) ∧ r = (0 : Int32)))
theorem ef_bz2 (m : MethodId) (x0 : Addr) (x1 : Int32) (x2 : Int32) (x3 : Int32)  : entryFrame m #[(.ref x0), (.int x1), (.int x2), (.int x3)] 8 = mkF m 0 #[.val (.ref x0), .val (.int x1), .val (.int x2), .val (.int x3), .unset, .unset, .unset, .unset] [] := by first | (simp [entryFrame, mkF, argsToLocals, Value.category]; done) | rfl
set_option maxRecDepth 65536 in
set_option maxHeartbeats 40000000 in
theorem c_bz2 (l : Launch) (Z : State) (a0 : Array Value) (hw : ∀ d ∈ tables_1, d.before a0 Z = true) (ws : List Jvm.Cond) (y : Addr) (ky : ClassId) (z0 : Int32) (z1 : Int32) (p1 : Int32) (h0 : Heap) (n0 : Nat) (Z0 : n0 ≤ h0.size) (Ay : Arv Z h0 y ky .int (8 : Int32) [(.int z0), (.int z1), (.int (0 : Int32)), (.int (0 : Int32)), (.int (0 : Int32)), (.int (0 : Int32)), (.int (0 : Int32)), (.int (0 : Int32))] (.int (0 : Int32))) :
  MetFree l (⟨"java/util/Arrays", "binarySearch0", "([IIII)I"⟩ : MethodName) (head1 (Jvm.Cond.code (⟨"java/util/Arrays", "binarySearch0", "([IIII)I"⟩ : MethodName) jdk_65_method_59_code 8 (some .int) :: ws) ({ frames := 0, cells := 0, slots := 0, locals := 0 } : Room)) (fun a U => a = #[(.ref y), (.int (0 : Int32)), (.int (2 : Int32)), (.int p1)] ∧ Z.Warmed39 U.vm ∧ U.heap = h0) (fun _ _ _ _ _ => True) (fun _ U o U' => ∃ v L, o = .returned v ∧ (Q_bz2 Z y ky z0 z1 p1 h0 n0) v U'.heap L ∧ FrameEnd U o U' L ({ frames := 0, cells := 0, slots := 0, locals := 0 } : Room).cells ({ frames := 0, cells := 0, slots := 0, locals := 0 } : Room).slots) := by
 refine MetFree.of_bodySF (plainFor_of_name pn_1) hisR ?_
 intro p e s m args below meth c s₁ Bd hml0 hP hK
 obtain ⟨rfl, hZ, hHp⟩ := hP
 have hx := Bd.exec
 have hby := Bd.bytes
 have hml : c.maxLocals = 8 := hml0
 have hown : s.vm.findClass "java/util/Arrays" = some m.cls := findClass_of_methodNamed Bd.named
 have hnm := (name_of_methodNamed Bd.named Bd.method).1
 have X0 : Stand p l e ({ frames := 0, cells := 0, slots := 0, locals := 0 } : Room) s m #[(.ref y), (.int (0 : Int32)), (.int (2 : Int32)), (.int p1)] below meth c s₁ [] 0 0 := Stand.of_body Bd
 have e0 : s₁.heap = h0 := by rw [← hHp, Bd.state]; rfl
 have N0 := Fr.nil n0
 refine ownOut (P := (Q_bz2 Z y ky z0 z1 p1 h0 n0)) ?_
 refine ownBy (A := s₁.setTop (mkF m 0 #[.val (.ref y), .val (.int (0 : Int32)), .val (.int (2 : Int32)), .val (.int p1), .unset, .unset, .unset, .unset] [])) (fun t k => castTop (ef_bz2 m y (0 : Int32) (2 : Int32) p1) k) ?_
 refine ownBy (A := s₁.setTop (fr_bz2 m y p1 27 (.val (.int (0 : Int32))) (.val (.int (1 : Int32))) (.val (.int (0 : Int32))) .unset [(.int (0 : Int32)), (.ref y)])) (fun t kt => ?_) ?_
 ·refine XS.iloadN X0.here hx rfl (hb hby d11_0) rfl ?_
  show Steps p.tables e below (s₁.setTop (fr_bz2 m y p1 1 .unset .unset .unset .unset [(.int (0 : Int32))])) t
  refine XS.istore X0.here hx rfl (hb hby d11_1) rfl (l' := #[.val (.ref y), .val (.int (0 : Int32)), .val (.int (2 : Int32)), .val (.int p1), .val (.int (0 : Int32)), .unset, .unset, .unset]) rfl ?_
  show Steps p.tables e below (s₁.setTop (fr_bz2 m y p1 3 (.val (.int (0 : Int32))) .unset .unset .unset [])) t
  refine XS.iloadN X0.here hx rfl (hb hby d11_3) rfl ?_
  show Steps p.tables e below (s₁.setTop (fr_bz2 m y p1 4 (.val (.int (0 : Int32))) .unset .unset .unset [(.int (2 : Int32))])) t
  refine XS.iconst X0.here hx rfl (hb hby d11_4) ?_
  show Steps p.tables e below (s₁.setTop (fr_bz2 m y p1 5 (.val (.int (0 : Int32))) .unset .unset .unset [(.int (1 : Int32)), (.int (2 : Int32))])) t
  refine XS.isub X0.here hx rfl (hb hby d11_5) rfl ?_
  show Steps p.tables e below (s₁.setTop (fr_bz2 m y p1 6 (.val (.int (0 : Int32))) .unset .unset .unset [(.int (1 : Int32))])) t
  refine XS.istore X0.here hx rfl (hb hby d11_6) rfl (l' := #[.val (.ref y), .val (.int (0 : Int32)), .val (.int (2 : Int32)), .val (.int p1), .val (.int (0 : Int32)), .val (.int (1 : Int32)), .unset, .unset]) rfl ?_
  show Steps p.tables e below (s₁.setTop (fr_bz2 m y p1 8 (.val (.int (0 : Int32))) (.val (.int (1 : Int32))) .unset .unset [])) t
  refine XS.iload X0.here hx rfl (hb hby d11_8) rfl ?_
  show Steps p.tables e below (s₁.setTop (fr_bz2 m y p1 10 (.val (.int (0 : Int32))) (.val (.int (1 : Int32))) .unset .unset [(.int (0 : Int32))])) t
  refine XS.iload X0.here hx rfl (hb hby d11_10) rfl ?_
  show Steps p.tables e below (s₁.setTop (fr_bz2 m y p1 12 (.val (.int (0 : Int32))) (.val (.int (1 : Int32))) .unset .unset [(.int (1 : Int32)), (.int (0 : Int32))])) t
  refine XS.icmpNo X0.here hx rfl (hb hby d11_12) rfl (flt ((by decide) : ¬ ((1 : Int32) < (0 : Int32)))).2.2.1 ?_
  show Steps p.tables e below (s₁.setTop (fr_bz2 m y p1 15 (.val (.int (0 : Int32))) (.val (.int (1 : Int32))) .unset .unset [])) t
  refine XS.iload X0.here hx rfl (hb hby d11_15) rfl ?_
  show Steps p.tables e below (s₁.setTop (fr_bz2 m y p1 17 (.val (.int (0 : Int32))) (.val (.int (1 : Int32))) .unset .unset [(.int (0 : Int32))])) t
  refine XS.iload X0.here hx rfl (hb hby d11_17) rfl ?_
  show Steps p.tables e below (s₁.setTop (fr_bz2 m y p1 19 (.val (.int (0 : Int32))) (.val (.int (1 : Int32))) .unset .unset [(.int (1 : Int32)), (.int (0 : Int32))])) t
  refine XS.iadd X0.here hx rfl (hb hby d11_19) rfl ?_
  show Steps p.tables e below (s₁.setTop (fr_bz2 m y p1 20 (.val (.int (0 : Int32))) (.val (.int (1 : Int32))) .unset .unset [(.int (1 : Int32))])) t
  refine XS.iconst X0.here hx rfl (hb hby d11_20) ?_
  show Steps p.tables e below (s₁.setTop (fr_bz2 m y p1 21 (.val (.int (0 : Int32))) (.val (.int (1 : Int32))) .unset .unset [(.int (1 : Int32)), (.int (1 : Int32))])) t
  refine XS.iushr X0.here hx rfl (hb hby d11_21) rfl ?_
  show Steps p.tables e below (s₁.setTop (fr_bz2 m y p1 22 (.val (.int (0 : Int32))) (.val (.int (1 : Int32))) .unset .unset [(.int (0 : Int32))])) t
  refine XS.istore X0.here hx rfl (hb hby d11_22) rfl (l' := #[.val (.ref y), .val (.int (0 : Int32)), .val (.int (2 : Int32)), .val (.int p1), .val (.int (0 : Int32)), .val (.int (1 : Int32)), .val (.int (0 : Int32)), .unset]) rfl ?_
  show Steps p.tables e below (s₁.setTop (fr_bz2 m y p1 24 (.val (.int (0 : Int32))) (.val (.int (1 : Int32))) (.val (.int (0 : Int32))) .unset [])) t
  refine XS.aloadN X0.here hx rfl (hb hby d11_24) rfl rfl ?_
  show Steps p.tables e below (s₁.setTop (fr_bz2 m y p1 25 (.val (.int (0 : Int32))) (.val (.int (1 : Int32))) (.val (.int (0 : Int32))) .unset [(.ref y)])) t
  refine XS.iload X0.here hx rfl (hb hby d11_25) rfl ?_
  exact kt
 obtain ⟨cl14, Ar14, q14, S14, N14, H14, G14⟩ := id Ay
 have hin14 : ¬ ((0 : Int32) < 0 ∨ cl14.slots.size ≤ ((0 : Int32)).toNatClampNeg) := inb_of S14 ⟨by decide, by decide⟩
 have hat14 : cl14.slots[((0 : Int32)).toNatClampNeg]? = some (.int z0) := H14.at hin14 rfl
 have st14 := X0.iaload hx (j := (0 : Int32)) (v := (.int z0)) (by rw [e0]; exact Ar14.1) (State.isArrayOf_alike hZ.alike Ar14.2.1) Ar14.2.2 hin14 hat14 (g := (fr_bz2 m y p1 27 (.val (.int (0 : Int32))) (.val (.int (1 : Int32))) (.val (.int (0 : Int32))) .unset [(.int (0 : Int32)), (.ref y)])) rfl rfl (hb hby d11_27)
 refine ownBy st14 ?_
 show ownG p.tables e below _ (s₁.setTop (fr_bz2 m y p1 28 (.val (.int (0 : Int32))) (.val (.int (1 : Int32))) (.val (.int (0 : Int32))) .unset [(.int z0)]))
 refine ownBy (A := s₁.setTop (fr_bz2 m y p1 33 (.val (.int (0 : Int32))) (.val (.int (1 : Int32))) (.val (.int (0 : Int32))) (.val (.int z0)) [(.int p1), (.int z0)])) (fun t kt => ?_) ?_
 ·refine XS.istore X0.here hx rfl (hb hby d11_28) rfl (l' := #[.val (.ref y), .val (.int (0 : Int32)), .val (.int (2 : Int32)), .val (.int p1), .val (.int (0 : Int32)), .val (.int (1 : Int32)), .val (.int (0 : Int32)), .val (.int z0)]) rfl ?_
  show Steps p.tables e below (s₁.setTop (fr_bz2 m y p1 30 (.val (.int (0 : Int32))) (.val (.int (1 : Int32))) (.val (.int (0 : Int32))) (.val (.int z0)) [])) t
  refine XS.iload X0.here hx rfl (hb hby d11_30) rfl ?_
  show Steps p.tables e below (s₁.setTop (fr_bz2 m y p1 32 (.val (.int (0 : Int32))) (.val (.int (1 : Int32))) (.val (.int (0 : Int32))) (.val (.int z0)) [(.int z0)])) t
  refine XS.iloadN X0.here hx rfl (hb hby d11_32) rfl ?_
  exact kt
 by_cases hc15 : z0 < p1
 ·skip
  refine ownBy (A := s₁.setTop (fr_bz2 m y p1 27 (.val (.int (1 : Int32))) (.val (.int (1 : Int32))) (.val (.int (1 : Int32))) (.val (.int z0)) [(.int (1 : Int32)), (.ref y)])) (fun t kt => ?_) ?_
  ·refine XS.icmpNo X0.here hx rfl (hb hby d11_33) rfl (tlt hc15).2.1 ?_
   show Steps p.tables e below (s₁.setTop (fr_bz2 m y p1 36 (.val (.int (0 : Int32))) (.val (.int (1 : Int32))) (.val (.int (0 : Int32))) (.val (.int z0)) [])) t
   refine XS.iload X0.here hx rfl (hb hby d11_36) rfl ?_
   show Steps p.tables e below (s₁.setTop (fr_bz2 m y p1 38 (.val (.int (0 : Int32))) (.val (.int (1 : Int32))) (.val (.int (0 : Int32))) (.val (.int z0)) [(.int (0 : Int32))])) t
   refine XS.iconst X0.here hx rfl (hb hby d11_38) ?_
   show Steps p.tables e below (s₁.setTop (fr_bz2 m y p1 39 (.val (.int (0 : Int32))) (.val (.int (1 : Int32))) (.val (.int (0 : Int32))) (.val (.int z0)) [(.int (1 : Int32)), (.int (0 : Int32))])) t
   refine XS.iadd X0.here hx rfl (hb hby d11_39) rfl ?_
   show Steps p.tables e below (s₁.setTop (fr_bz2 m y p1 40 (.val (.int (0 : Int32))) (.val (.int (1 : Int32))) (.val (.int (0 : Int32))) (.val (.int z0)) [(.int (1 : Int32))])) t
   refine XS.istore X0.here hx rfl (hb hby d11_40) rfl (l' := #[.val (.ref y), .val (.int (0 : Int32)), .val (.int (2 : Int32)), .val (.int p1), .val (.int (1 : Int32)), .val (.int (1 : Int32)), .val (.int (0 : Int32)), .val (.int z0)]) rfl ?_
   show Steps p.tables e below (s₁.setTop (fr_bz2 m y p1 42 (.val (.int (1 : Int32))) (.val (.int (1 : Int32))) (.val (.int (0 : Int32))) (.val (.int z0)) [])) t
   refine XS.goto X0.here hx rfl (pc0 := 42) (pc' := 63) rfl (hb hby d11_42) (by decide) (by decide) ?_
   show Steps p.tables e below (s₁.setTop (fr_bz2 m y p1 63 (.val (.int (1 : Int32))) (.val (.int (1 : Int32))) (.val (.int (0 : Int32))) (.val (.int z0)) [])) t
   refine XS.goto X0.here hx rfl (pc0 := 63) (pc' := 8) rfl (hb hby d11_63) (by decide) (by decide) ?_
   show Steps p.tables e below (s₁.setTop (fr_bz2 m y p1 8 (.val (.int (1 : Int32))) (.val (.int (1 : Int32))) (.val (.int (0 : Int32))) (.val (.int z0)) [])) t
   refine XS.iload X0.here hx rfl (hb hby d11_8) rfl ?_
   show Steps p.tables e below (s₁.setTop (fr_bz2 m y p1 10 (.val (.int (1 : Int32))) (.val (.int (1 : Int32))) (.val (.int (0 : Int32))) (.val (.int z0)) [(.int (1 : Int32))])) t
   refine XS.iload X0.here hx rfl (hb hby d11_10) rfl ?_
   show Steps p.tables e below (s₁.setTop (fr_bz2 m y p1 12 (.val (.int (1 : Int32))) (.val (.int (1 : Int32))) (.val (.int (0 : Int32))) (.val (.int z0)) [(.int (1 : Int32)), (.int (1 : Int32))])) t
   refine XS.icmpNo X0.here hx rfl (hb hby d11_12) rfl (flt ((by decide) : ¬ ((1 : Int32) < (1 : Int32)))).2.2.1 ?_
   show Steps p.tables e below (s₁.setTop (fr_bz2 m y p1 15 (.val (.int (1 : Int32))) (.val (.int (1 : Int32))) (.val (.int (0 : Int32))) (.val (.int z0)) [])) t
   refine XS.iload X0.here hx rfl (hb hby d11_15) rfl ?_
   show Steps p.tables e below (s₁.setTop (fr_bz2 m y p1 17 (.val (.int (1 : Int32))) (.val (.int (1 : Int32))) (.val (.int (0 : Int32))) (.val (.int z0)) [(.int (1 : Int32))])) t
   refine XS.iload X0.here hx rfl (hb hby d11_17) rfl ?_
   show Steps p.tables e below (s₁.setTop (fr_bz2 m y p1 19 (.val (.int (1 : Int32))) (.val (.int (1 : Int32))) (.val (.int (0 : Int32))) (.val (.int z0)) [(.int (1 : Int32)), (.int (1 : Int32))])) t
   refine XS.iadd X0.here hx rfl (hb hby d11_19) rfl ?_
   show Steps p.tables e below (s₁.setTop (fr_bz2 m y p1 20 (.val (.int (1 : Int32))) (.val (.int (1 : Int32))) (.val (.int (0 : Int32))) (.val (.int z0)) [(.int (2 : Int32))])) t
   refine XS.iconst X0.here hx rfl (hb hby d11_20) ?_
   show Steps p.tables e below (s₁.setTop (fr_bz2 m y p1 21 (.val (.int (1 : Int32))) (.val (.int (1 : Int32))) (.val (.int (0 : Int32))) (.val (.int z0)) [(.int (1 : Int32)), (.int (2 : Int32))])) t
   refine XS.iushr X0.here hx rfl (hb hby d11_21) rfl ?_
   show Steps p.tables e below (s₁.setTop (fr_bz2 m y p1 22 (.val (.int (1 : Int32))) (.val (.int (1 : Int32))) (.val (.int (0 : Int32))) (.val (.int z0)) [(.int (1 : Int32))])) t
   refine XS.istore X0.here hx rfl (hb hby d11_22) rfl (l' := #[.val (.ref y), .val (.int (0 : Int32)), .val (.int (2 : Int32)), .val (.int p1), .val (.int (1 : Int32)), .val (.int (1 : Int32)), .val (.int (1 : Int32)), .val (.int z0)]) rfl ?_
   show Steps p.tables e below (s₁.setTop (fr_bz2 m y p1 24 (.val (.int (1 : Int32))) (.val (.int (1 : Int32))) (.val (.int (1 : Int32))) (.val (.int z0)) [])) t
   refine XS.aloadN X0.here hx rfl (hb hby d11_24) rfl rfl ?_
   show Steps p.tables e below (s₁.setTop (fr_bz2 m y p1 25 (.val (.int (1 : Int32))) (.val (.int (1 : Int32))) (.val (.int (1 : Int32))) (.val (.int z0)) [(.ref y)])) t
   refine XS.iload X0.here hx rfl (hb hby d11_25) rfl ?_
   exact kt
  obtain ⟨cl16, Ar16, q16, S16, N16, H16, G16⟩ := id Ay
  have hin16 : ¬ ((1 : Int32) < 0 ∨ cl16.slots.size ≤ ((1 : Int32)).toNatClampNeg) := inb_of S16 ⟨by decide, by decide⟩
  have hat16 : cl16.slots[((1 : Int32)).toNatClampNeg]? = some (.int z1) := H16.at hin16 rfl
  have st16 := X0.iaload hx (j := (1 : Int32)) (v := (.int z1)) (by rw [e0]; exact Ar16.1) (State.isArrayOf_alike hZ.alike Ar16.2.1) Ar16.2.2 hin16 hat16 (g := (fr_bz2 m y p1 27 (.val (.int (1 : Int32))) (.val (.int (1 : Int32))) (.val (.int (1 : Int32))) (.val (.int z0)) [(.int (1 : Int32)), (.ref y)])) rfl rfl (hb hby d11_27)
  refine ownBy st16 ?_
  show ownG p.tables e below _ (s₁.setTop (fr_bz2 m y p1 28 (.val (.int (1 : Int32))) (.val (.int (1 : Int32))) (.val (.int (1 : Int32))) (.val (.int z0)) [(.int z1)]))
  refine ownBy (A := s₁.setTop (fr_bz2 m y p1 33 (.val (.int (1 : Int32))) (.val (.int (1 : Int32))) (.val (.int (1 : Int32))) (.val (.int z1)) [(.int p1), (.int z1)])) (fun t kt => ?_) ?_
  ·refine XS.istore X0.here hx rfl (hb hby d11_28) rfl (l' := #[.val (.ref y), .val (.int (0 : Int32)), .val (.int (2 : Int32)), .val (.int p1), .val (.int (1 : Int32)), .val (.int (1 : Int32)), .val (.int (1 : Int32)), .val (.int z1)]) rfl ?_
   show Steps p.tables e below (s₁.setTop (fr_bz2 m y p1 30 (.val (.int (1 : Int32))) (.val (.int (1 : Int32))) (.val (.int (1 : Int32))) (.val (.int z1)) [])) t
   refine XS.iload X0.here hx rfl (hb hby d11_30) rfl ?_
   show Steps p.tables e below (s₁.setTop (fr_bz2 m y p1 32 (.val (.int (1 : Int32))) (.val (.int (1 : Int32))) (.val (.int (1 : Int32))) (.val (.int z1)) [(.int z1)])) t
   refine XS.iloadN X0.here hx rfl (hb hby d11_32) rfl ?_
   exact kt
  by_cases hc17 : z1 < p1
  ·skip
   refine ownBy (A := s₁.setTop (fr_bz2 m y p1 71 (.val (.int (2 : Int32))) (.val (.int (1 : Int32))) (.val (.int (1 : Int32))) (.val (.int z1)) [(.int (-3 : Int32))])) (fun t kt => ?_) ?_
   ·refine XS.icmpNo X0.here hx rfl (hb hby d11_33) rfl (tlt hc17).2.1 ?_
    show Steps p.tables e below (s₁.setTop (fr_bz2 m y p1 36 (.val (.int (1 : Int32))) (.val (.int (1 : Int32))) (.val (.int (1 : Int32))) (.val (.int z1)) [])) t
    refine XS.iload X0.here hx rfl (hb hby d11_36) rfl ?_
    show Steps p.tables e below (s₁.setTop (fr_bz2 m y p1 38 (.val (.int (1 : Int32))) (.val (.int (1 : Int32))) (.val (.int (1 : Int32))) (.val (.int z1)) [(.int (1 : Int32))])) t
    refine XS.iconst X0.here hx rfl (hb hby d11_38) ?_
    show Steps p.tables e below (s₁.setTop (fr_bz2 m y p1 39 (.val (.int (1 : Int32))) (.val (.int (1 : Int32))) (.val (.int (1 : Int32))) (.val (.int z1)) [(.int (1 : Int32)), (.int (1 : Int32))])) t
    refine XS.iadd X0.here hx rfl (hb hby d11_39) rfl ?_
    show Steps p.tables e below (s₁.setTop (fr_bz2 m y p1 40 (.val (.int (1 : Int32))) (.val (.int (1 : Int32))) (.val (.int (1 : Int32))) (.val (.int z1)) [(.int (2 : Int32))])) t
    refine XS.istore X0.here hx rfl (hb hby d11_40) rfl (l' := #[.val (.ref y), .val (.int (0 : Int32)), .val (.int (2 : Int32)), .val (.int p1), .val (.int (2 : Int32)), .val (.int (1 : Int32)), .val (.int (1 : Int32)), .val (.int z1)]) rfl ?_
    show Steps p.tables e below (s₁.setTop (fr_bz2 m y p1 42 (.val (.int (2 : Int32))) (.val (.int (1 : Int32))) (.val (.int (1 : Int32))) (.val (.int z1)) [])) t
    refine XS.goto X0.here hx rfl (pc0 := 42) (pc' := 63) rfl (hb hby d11_42) (by decide) (by decide) ?_
    show Steps p.tables e below (s₁.setTop (fr_bz2 m y p1 63 (.val (.int (2 : Int32))) (.val (.int (1 : Int32))) (.val (.int (1 : Int32))) (.val (.int z1)) [])) t
    refine XS.goto X0.here hx rfl (pc0 := 63) (pc' := 8) rfl (hb hby d11_63) (by decide) (by decide) ?_
    show Steps p.tables e below (s₁.setTop (fr_bz2 m y p1 8 (.val (.int (2 : Int32))) (.val (.int (1 : Int32))) (.val (.int (1 : Int32))) (.val (.int z1)) [])) t
    refine XS.iload X0.here hx rfl (hb hby d11_8) rfl ?_
    show Steps p.tables e below (s₁.setTop (fr_bz2 m y p1 10 (.val (.int (2 : Int32))) (.val (.int (1 : Int32))) (.val (.int (1 : Int32))) (.val (.int z1)) [(.int (2 : Int32))])) t
    refine XS.iload X0.here hx rfl (hb hby d11_10) rfl ?_
    show Steps p.tables e below (s₁.setTop (fr_bz2 m y p1 12 (.val (.int (2 : Int32))) (.val (.int (1 : Int32))) (.val (.int (1 : Int32))) (.val (.int z1)) [(.int (1 : Int32)), (.int (2 : Int32))])) t
    refine XS.icmpYes X0.here hx rfl (pc0 := 12) (pc' := 66) rfl (hb hby d11_12) rfl (tlt ((by decide) : (1 : Int32) < (2 : Int32))).2.2.1 (by decide) (by decide) ?_
    show Steps p.tables e below (s₁.setTop (fr_bz2 m y p1 66 (.val (.int (2 : Int32))) (.val (.int (1 : Int32))) (.val (.int (1 : Int32))) (.val (.int z1)) [])) t
    refine XS.iload X0.here hx rfl (hb hby d11_66) rfl ?_
    show Steps p.tables e below (s₁.setTop (fr_bz2 m y p1 68 (.val (.int (2 : Int32))) (.val (.int (1 : Int32))) (.val (.int (1 : Int32))) (.val (.int z1)) [(.int (2 : Int32))])) t
    refine XS.iconst X0.here hx rfl (hb hby d11_68) ?_
    show Steps p.tables e below (s₁.setTop (fr_bz2 m y p1 69 (.val (.int (2 : Int32))) (.val (.int (1 : Int32))) (.val (.int (1 : Int32))) (.val (.int z1)) [(.int (1 : Int32)), (.int (2 : Int32))])) t
    refine XS.iadd X0.here hx rfl (hb hby d11_69) rfl ?_
    show Steps p.tables e below (s₁.setTop (fr_bz2 m y p1 70 (.val (.int (2 : Int32))) (.val (.int (1 : Int32))) (.val (.int (1 : Int32))) (.val (.int z1)) [(.int (3 : Int32))])) t
    refine XS.ineg X0.here hx rfl (hb hby d11_70) rfl ?_
    exact kt
   refine ownRet X0 Bd.notSynchronized (v := some (.int (-3 : Int32))) (fun h => by rw [Bd.returns] at h; cases h) ?_ (oLe rfl) (oLe rfl) (fun fs hr => retI X0 hx Bd.returns (hb hby d11_71) hr)
   show (Q_bz2 Z y ky z0 z1 p1 h0 n0) (some (.int (-3 : Int32))) s₁.heap _
   rw [e0]
   exact ⟨_, rfl, N0, rfl, Or.inl ⟨hc15, hc17, rfl⟩⟩
  ·skip
   refine ownBy (A := s₁.setTop (fr_bz2 m y p1 48 (.val (.int (1 : Int32))) (.val (.int (1 : Int32))) (.val (.int (1 : Int32))) (.val (.int z1)) [(.int p1), (.int z1)])) (fun t kt => ?_) ?_
   ·refine XS.icmpYes X0.here hx rfl (pc0 := 33) (pc' := 45) rfl (hb hby d11_33) rfl (flt hc17).2.1 (by decide) (by decide) ?_
    show Steps p.tables e below (s₁.setTop (fr_bz2 m y p1 45 (.val (.int (1 : Int32))) (.val (.int (1 : Int32))) (.val (.int (1 : Int32))) (.val (.int z1)) [])) t
    refine XS.iload X0.here hx rfl (hb hby d11_45) rfl ?_
    show Steps p.tables e below (s₁.setTop (fr_bz2 m y p1 47 (.val (.int (1 : Int32))) (.val (.int (1 : Int32))) (.val (.int (1 : Int32))) (.val (.int z1)) [(.int z1)])) t
    refine XS.iloadN X0.here hx rfl (hb hby d11_47) rfl ?_
    exact kt
   by_cases hc18 : p1 < z1
   ·skip
    refine ownBy (A := s₁.setTop (fr_bz2 m y p1 71 (.val (.int (1 : Int32))) (.val (.int (0 : Int32))) (.val (.int (1 : Int32))) (.val (.int z1)) [(.int (-2 : Int32))])) (fun t kt => ?_) ?_
    ·refine XS.icmpNo X0.here hx rfl (hb hby d11_48) rfl (tlt hc18).2.2.2 ?_
     show Steps p.tables e below (s₁.setTop (fr_bz2 m y p1 51 (.val (.int (1 : Int32))) (.val (.int (1 : Int32))) (.val (.int (1 : Int32))) (.val (.int z1)) [])) t
     refine XS.iload X0.here hx rfl (hb hby d11_51) rfl ?_
     show Steps p.tables e below (s₁.setTop (fr_bz2 m y p1 53 (.val (.int (1 : Int32))) (.val (.int (1 : Int32))) (.val (.int (1 : Int32))) (.val (.int z1)) [(.int (1 : Int32))])) t
     refine XS.iconst X0.here hx rfl (hb hby d11_53) ?_
     show Steps p.tables e below (s₁.setTop (fr_bz2 m y p1 54 (.val (.int (1 : Int32))) (.val (.int (1 : Int32))) (.val (.int (1 : Int32))) (.val (.int z1)) [(.int (1 : Int32)), (.int (1 : Int32))])) t
     refine XS.isub X0.here hx rfl (hb hby d11_54) rfl ?_
     show Steps p.tables e below (s₁.setTop (fr_bz2 m y p1 55 (.val (.int (1 : Int32))) (.val (.int (1 : Int32))) (.val (.int (1 : Int32))) (.val (.int z1)) [(.int (0 : Int32))])) t
     refine XS.istore X0.here hx rfl (hb hby d11_55) rfl (l' := #[.val (.ref y), .val (.int (0 : Int32)), .val (.int (2 : Int32)), .val (.int p1), .val (.int (1 : Int32)), .val (.int (0 : Int32)), .val (.int (1 : Int32)), .val (.int z1)]) rfl ?_
     show Steps p.tables e below (s₁.setTop (fr_bz2 m y p1 57 (.val (.int (1 : Int32))) (.val (.int (0 : Int32))) (.val (.int (1 : Int32))) (.val (.int z1)) [])) t
     refine XS.goto X0.here hx rfl (pc0 := 57) (pc' := 63) rfl (hb hby d11_57) (by decide) (by decide) ?_
     show Steps p.tables e below (s₁.setTop (fr_bz2 m y p1 63 (.val (.int (1 : Int32))) (.val (.int (0 : Int32))) (.val (.int (1 : Int32))) (.val (.int z1)) [])) t
     refine XS.goto X0.here hx rfl (pc0 := 63) (pc' := 8) rfl (hb hby d11_63) (by decide) (by decide) ?_
     show Steps p.tables e below (s₁.setTop (fr_bz2 m y p1 8 (.val (.int (1 : Int32))) (.val (.int (0 : Int32))) (.val (.int (1 : Int32))) (.val (.int z1)) [])) t
     refine XS.iload X0.here hx rfl (hb hby d11_8) rfl ?_
     show Steps p.tables e below (s₁.setTop (fr_bz2 m y p1 10 (.val (.int (1 : Int32))) (.val (.int (0 : Int32))) (.val (.int (1 : Int32))) (.val (.int z1)) [(.int (1 : Int32))])) t
     refine XS.iload X0.here hx rfl (hb hby d11_10) rfl ?_
     show Steps p.tables e below (s₁.setTop (fr_bz2 m y p1 12 (.val (.int (1 : Int32))) (.val (.int (0 : Int32))) (.val (.int (1 : Int32))) (.val (.int z1)) [(.int (0 : Int32)), (.int (1 : Int32))])) t
     refine XS.icmpYes X0.here hx rfl (pc0 := 12) (pc' := 66) rfl (hb hby d11_12) rfl (tlt ((by decide) : (0 : Int32) < (1 : Int32))).2.2.1 (by decide) (by decide) ?_
     show Steps p.tables e below (s₁.setTop (fr_bz2 m y p1 66 (.val (.int (1 : Int32))) (.val (.int (0 : Int32))) (.val (.int (1 : Int32))) (.val (.int z1)) [])) t
     refine XS.iload X0.here hx rfl (hb hby d11_66) rfl ?_
     show Steps p.tables e below (s₁.setTop (fr_bz2 m y p1 68 (.val (.int (1 : Int32))) (.val (.int (0 : Int32))) (.val (.int (1 : Int32))) (.val (.int z1)) [(.int (1 : Int32))])) t
     refine XS.iconst X0.here hx rfl (hb hby d11_68) ?_
     show Steps p.tables e below (s₁.setTop (fr_bz2 m y p1 69 (.val (.int (1 : Int32))) (.val (.int (0 : Int32))) (.val (.int (1 : Int32))) (.val (.int z1)) [(.int (1 : Int32)), (.int (1 : Int32))])) t
     refine XS.iadd X0.here hx rfl (hb hby d11_69) rfl ?_
     show Steps p.tables e below (s₁.setTop (fr_bz2 m y p1 70 (.val (.int (1 : Int32))) (.val (.int (0 : Int32))) (.val (.int (1 : Int32))) (.val (.int z1)) [(.int (2 : Int32))])) t
     refine XS.ineg X0.here hx rfl (hb hby d11_70) rfl ?_
     exact kt
    refine ownRet X0 Bd.notSynchronized (v := some (.int (-2 : Int32))) (fun h => by rw [Bd.returns] at h; cases h) ?_ (oLe rfl) (oLe rfl) (fun fs hr => retI X0 hx Bd.returns (hb hby d11_71) hr)
    show (Q_bz2 Z y ky z0 z1 p1 h0 n0) (some (.int (-2 : Int32))) s₁.heap _
    rw [e0]
    exact ⟨_, rfl, N0, rfl, Or.inr (Or.inl ⟨hc15, hc17, hc18, rfl⟩)⟩
   ·skip
    refine ownBy (A := s₁.setTop (fr_bz2 m y p1 62 (.val (.int (1 : Int32))) (.val (.int (1 : Int32))) (.val (.int (1 : Int32))) (.val (.int z1)) [(.int (1 : Int32))])) (fun t kt => ?_) ?_
    ·refine XS.icmpYes X0.here hx rfl (pc0 := 48) (pc' := 60) rfl (hb hby d11_48) rfl (flt hc18).2.2.2 (by decide) (by decide) ?_
     show Steps p.tables e below (s₁.setTop (fr_bz2 m y p1 60 (.val (.int (1 : Int32))) (.val (.int (1 : Int32))) (.val (.int (1 : Int32))) (.val (.int z1)) [])) t
     refine XS.iload X0.here hx rfl (hb hby d11_60) rfl ?_
     exact kt
    refine ownRet X0 Bd.notSynchronized (v := some (.int (1 : Int32))) (fun h => by rw [Bd.returns] at h; cases h) ?_ (oLe rfl) (oLe rfl) (fun fs hr => retI X0 hx Bd.returns (hb hby d11_62) hr)
    show (Q_bz2 Z y ky z0 z1 p1 h0 n0) (some (.int (1 : Int32))) s₁.heap _
    rw [e0]
    exact ⟨_, rfl, N0, rfl, Or.inr (Or.inr (Or.inl ⟨hc15, hc17, hc18, rfl⟩))⟩
 ·skip
  refine ownBy (A := s₁.setTop (fr_bz2 m y p1 48 (.val (.int (0 : Int32))) (.val (.int (1 : Int32))) (.val (.int (0 : Int32))) (.val (.int z0)) [(.int p1), (.int z0)])) (fun t kt => ?_) ?_
  ·refine XS.icmpYes X0.here hx rfl (pc0 := 33) (pc' := 45) rfl (hb hby d11_33) rfl (flt hc15).2.1 (by decide) (by decide) ?_
   show Steps p.tables e below (s₁.setTop (fr_bz2 m y p1 45 (.val (.int (0 : Int32))) (.val (.int (1 : Int32))) (.val (.int (0 : Int32))) (.val (.int z0)) [])) t
   refine XS.iload X0.here hx rfl (hb hby d11_45) rfl ?_
   show Steps p.tables e below (s₁.setTop (fr_bz2 m y p1 47 (.val (.int (0 : Int32))) (.val (.int (1 : Int32))) (.val (.int (0 : Int32))) (.val (.int z0)) [(.int z0)])) t
   refine XS.iloadN X0.here hx rfl (hb hby d11_47) rfl ?_
   exact kt
  by_cases hc19 : p1 < z0
  ·skip
   refine ownBy (A := s₁.setTop (fr_bz2 m y p1 71 (.val (.int (0 : Int32))) (.val (.int (-1 : Int32))) (.val (.int (0 : Int32))) (.val (.int z0)) [(.int (-1 : Int32))])) (fun t kt => ?_) ?_
   ·refine XS.icmpNo X0.here hx rfl (hb hby d11_48) rfl (tlt hc19).2.2.2 ?_
    show Steps p.tables e below (s₁.setTop (fr_bz2 m y p1 51 (.val (.int (0 : Int32))) (.val (.int (1 : Int32))) (.val (.int (0 : Int32))) (.val (.int z0)) [])) t
    refine XS.iload X0.here hx rfl (hb hby d11_51) rfl ?_
    show Steps p.tables e below (s₁.setTop (fr_bz2 m y p1 53 (.val (.int (0 : Int32))) (.val (.int (1 : Int32))) (.val (.int (0 : Int32))) (.val (.int z0)) [(.int (0 : Int32))])) t
    refine XS.iconst X0.here hx rfl (hb hby d11_53) ?_
    show Steps p.tables e below (s₁.setTop (fr_bz2 m y p1 54 (.val (.int (0 : Int32))) (.val (.int (1 : Int32))) (.val (.int (0 : Int32))) (.val (.int z0)) [(.int (1 : Int32)), (.int (0 : Int32))])) t
    refine XS.isub X0.here hx rfl (hb hby d11_54) rfl ?_
    show Steps p.tables e below (s₁.setTop (fr_bz2 m y p1 55 (.val (.int (0 : Int32))) (.val (.int (1 : Int32))) (.val (.int (0 : Int32))) (.val (.int z0)) [(.int (-1 : Int32))])) t
    refine XS.istore X0.here hx rfl (hb hby d11_55) rfl (l' := #[.val (.ref y), .val (.int (0 : Int32)), .val (.int (2 : Int32)), .val (.int p1), .val (.int (0 : Int32)), .val (.int (-1 : Int32)), .val (.int (0 : Int32)), .val (.int z0)]) rfl ?_
    show Steps p.tables e below (s₁.setTop (fr_bz2 m y p1 57 (.val (.int (0 : Int32))) (.val (.int (-1 : Int32))) (.val (.int (0 : Int32))) (.val (.int z0)) [])) t
    refine XS.goto X0.here hx rfl (pc0 := 57) (pc' := 63) rfl (hb hby d11_57) (by decide) (by decide) ?_
    show Steps p.tables e below (s₁.setTop (fr_bz2 m y p1 63 (.val (.int (0 : Int32))) (.val (.int (-1 : Int32))) (.val (.int (0 : Int32))) (.val (.int z0)) [])) t
    refine XS.goto X0.here hx rfl (pc0 := 63) (pc' := 8) rfl (hb hby d11_63) (by decide) (by decide) ?_
    show Steps p.tables e below (s₁.setTop (fr_bz2 m y p1 8 (.val (.int (0 : Int32))) (.val (.int (-1 : Int32))) (.val (.int (0 : Int32))) (.val (.int z0)) [])) t
    refine XS.iload X0.here hx rfl (hb hby d11_8) rfl ?_
    show Steps p.tables e below (s₁.setTop (fr_bz2 m y p1 10 (.val (.int (0 : Int32))) (.val (.int (-1 : Int32))) (.val (.int (0 : Int32))) (.val (.int z0)) [(.int (0 : Int32))])) t
    refine XS.iload X0.here hx rfl (hb hby d11_10) rfl ?_
    show Steps p.tables e below (s₁.setTop (fr_bz2 m y p1 12 (.val (.int (0 : Int32))) (.val (.int (-1 : Int32))) (.val (.int (0 : Int32))) (.val (.int z0)) [(.int (-1 : Int32)), (.int (0 : Int32))])) t
    refine XS.icmpYes X0.here hx rfl (pc0 := 12) (pc' := 66) rfl (hb hby d11_12) rfl (tlt ((by decide) : (-1 : Int32) < (0 : Int32))).2.2.1 (by decide) (by decide) ?_
    show Steps p.tables e below (s₁.setTop (fr_bz2 m y p1 66 (.val (.int (0 : Int32))) (.val (.int (-1 : Int32))) (.val (.int (0 : Int32))) (.val (.int z0)) [])) t
    refine XS.iload X0.here hx rfl (hb hby d11_66) rfl ?_
    show Steps p.tables e below (s₁.setTop (fr_bz2 m y p1 68 (.val (.int (0 : Int32))) (.val (.int (-1 : Int32))) (.val (.int (0 : Int32))) (.val (.int z0)) [(.int (0 : Int32))])) t
    refine XS.iconst X0.here hx rfl (hb hby d11_68) ?_
    show Steps p.tables e below (s₁.setTop (fr_bz2 m y p1 69 (.val (.int (0 : Int32))) (.val (.int (-1 : Int32))) (.val (.int (0 : Int32))) (.val (.int z0)) [(.int (1 : Int32)), (.int (0 : Int32))])) t
    refine XS.iadd X0.here hx rfl (hb hby d11_69) rfl ?_
    show Steps p.tables e below (s₁.setTop (fr_bz2 m y p1 70 (.val (.int (0 : Int32))) (.val (.int (-1 : Int32))) (.val (.int (0 : Int32))) (.val (.int z0)) [(.int (1 : Int32))])) t
    refine XS.ineg X0.here hx rfl (hb hby d11_70) rfl ?_
    exact kt
   refine ownRet X0 Bd.notSynchronized (v := some (.int (-1 : Int32))) (fun h => by rw [Bd.returns] at h; cases h) ?_ (oLe rfl) (oLe rfl) (fun fs hr => retI X0 hx Bd.returns (hb hby d11_71) hr)
   show (Q_bz2 Z y ky z0 z1 p1 h0 n0) (some (.int (-1 : Int32))) s₁.heap _
   rw [e0]
   exact ⟨_, rfl, N0, rfl, Or.inr (Or.inr (Or.inr (Or.inl ⟨hc15, hc19, rfl⟩)))⟩
  ·skip
   refine ownBy (A := s₁.setTop (fr_bz2 m y p1 62 (.val (.int (0 : Int32))) (.val (.int (1 : Int32))) (.val (.int (0 : Int32))) (.val (.int z0)) [(.int (0 : Int32))])) (fun t kt => ?_) ?_
   ·refine XS.icmpYes X0.here hx rfl (pc0 := 48) (pc' := 60) rfl (hb hby d11_48) rfl (flt hc19).2.2.2 (by decide) (by decide) ?_
    show Steps p.tables e below (s₁.setTop (fr_bz2 m y p1 60 (.val (.int (0 : Int32))) (.val (.int (1 : Int32))) (.val (.int (0 : Int32))) (.val (.int z0)) [])) t
    refine XS.iload X0.here hx rfl (hb hby d11_60) rfl ?_
    exact kt
   refine ownRet X0 Bd.notSynchronized (v := some (.int (0 : Int32))) (fun h => by rw [Bd.returns] at h; cases h) ?_ (oLe rfl) (oLe rfl) (fun fs hr => retI X0 hx Bd.returns (hb hby d11_62) hr)
   show (Q_bz2 Z y ky z0 z1 p1 h0 n0) (some (.int (0 : Int32))) s₁.heap _
   rw [e0]
   exact ⟨_, rfl, N0, rfl, Or.inr (Or.inr (Or.inr (Or.inr (⟨hc15, hc19, rfl⟩))))⟩
abbrev fr_bs2 (m : MethodId) (y : Addr) (p1 : Int32) (pc : Nat)  (st : List Value) : JFrame := mkF m pc #[.val (.ref y), .val (.int (0 : Int32)), .val (.int (2 : Int32)), .val (.int p1)] st
def Q_bs2 (Z : State) (y : Addr) (ky : ClassId) (z0 : Int32) (z1 : Int32) (p1 : Int32) (h0 : Heap) (n0 : Nat) (v : Option Value) (h : Heap) (L : List Loc) : Prop := ∃ r : Int32, v = some (.int r) ∧ Fr n0 L ∧ h = h0 ∧ ((z0 < p1 ∧ z1 < p1 ∧ r = (-3 : Int32)) ∨ (z0 < p1 ∧ ¬ (z1 < p1) ∧ p1 < z1 ∧ r = (-2 : Int32)) ∨ (z0 < p1 ∧ ¬ (z1 < p1) ∧ ¬ (p1 < z1) ∧ r = (1 : Int32)) ∨ (¬ (z0 < p1) ∧ p1 < z0 ∧ r = (-1 : Int32)) ∨ (¬ (z0 < p1) ∧ ¬ (p1 < z0) ∧ r = (0 : Int32)))
theorem ef_bs2 (m : MethodId) (x0 : Addr) (x1 : Int32) (x2 : Int32) (x3 : Int32)  : entryFrame m #[(.ref x0), (.int x1), (.int x2), (.int x3)] 4 = mkF m 0 #[.val (.ref x0), .val (.int x1), .val (.int x2), .val (.int x3)] [] := by first | (simp [entryFrame, mkF, argsToLocals, Value.category]; done) | rfl
set_option maxRecDepth 65536 in
set_option maxHeartbeats 40000000 in
theorem c_bs2 (l : Launch) (Z : State) (a0 : Array Value) (hw : ∀ d ∈ tables_1, d.before a0 Z = true) (ws : List Jvm.Cond) (y : Addr) (ky : ClassId) (z0 : Int32) (z1 : Int32) (p1 : Int32) (h0 : Heap) (n0 : Nat) (Z0 : n0 ≤ h0.size) (Ay : Arv Z h0 y ky .int (8 : Int32) [(.int z0), (.int z1), (.int (0 : Int32)), (.int (0 : Int32)), (.int (0 : Int32)), (.int (0 : Int32)), (.int (0 : Int32)), (.int (0 : Int32))] (.int (0 : Int32))) :
  MetFree l (⟨"java/util/Arrays", "binarySearch", "([IIII)I"⟩ : MethodName) (head1 (Jvm.Cond.code (⟨"java/util/Arrays", "binarySearch", "([IIII)I"⟩ : MethodName) jdk_65_method_58_code 4 (some .int) :: ws) ({ frames := 1, cells := 0, slots := 0, locals := 19 } : Room)) (fun a U => a = #[(.ref y), (.int (0 : Int32)), (.int (2 : Int32)), (.int p1)] ∧ Z.Warmed39 U.vm ∧ U.heap = h0) (fun _ _ _ _ _ => True) (fun _ U o U' => ∃ v L, o = .returned v ∧ (Q_bs2 Z y ky z0 z1 p1 h0 n0) v U'.heap L ∧ FrameEnd U o U' L ({ frames := 1, cells := 0, slots := 0, locals := 19 } : Room).cells ({ frames := 1, cells := 0, slots := 0, locals := 19 } : Room).slots) := by
 refine MetFree.of_bodySF (plainFor_of_name pn_1) hisR ?_
 intro p e s m args below meth c s₁ Bd hml0 hP hK
 obtain ⟨rfl, hZ, hHp⟩ := hP
 have hx := Bd.exec
 have hby := Bd.bytes
 have hml : c.maxLocals = 4 := hml0
 have hown : s.vm.findClass "java/util/Arrays" = some m.cls := findClass_of_methodNamed Bd.named
 have hnm := (name_of_methodNamed Bd.named Bd.method).1
 have X0 : Stand p l e ({ frames := 1, cells := 0, slots := 0, locals := 19 } : Room) s m #[(.ref y), (.int (0 : Int32)), (.int (2 : Int32)), (.int p1)] below meth c s₁ [] 0 0 := Stand.of_body Bd
 have e0 : s₁.heap = h0 := by rw [← hHp, Bd.state]; rfl
 have N0 := Fr.nil n0
 refine ownOut (P := (Q_bs2 Z y ky z0 z1 p1 h0 n0)) ?_
 refine ownBy (A := s₁.setTop (mkF m 0 #[.val (.ref y), .val (.int (0 : Int32)), .val (.int (2 : Int32)), .val (.int p1)] [])) (fun t k => castTop (ef_bs2 m y (0 : Int32) (2 : Int32) p1) k) ?_
 refine ownBy (A := s₁.setTop (fr_bs2 m y p1 1  [(.ref y)])) (fun t kt => ?_) ?_
 ·refine XS.aloadN X0.here hx rfl (hb hby d9_0) rfl rfl ?_
  exact kt
 obtain ⟨cl20, Ar20, -, S20, N20, -, -⟩ := id Ay
 have st20 := X0.arraylength hx (by rw [e0]; exact Ar20.1) (State.isArrayOf_alike hZ.alike Ar20.2.1) (g := (fr_bs2 m y p1 1  [(.ref y)])) rfl rfl (hb hby d9_1)
 rw [len_of S20 N20] at st20
 refine ownBy st20 ?_
 show ownG p.tables e below _ (s₁.setTop (fr_bs2 m y p1 2  [(.int (8 : Int32))]))
 refine ownBy (A := s₁.setTop (fr_bs2 m y p1 4  [(.int (2 : Int32)), (.int (0 : Int32)), (.int (8 : Int32))])) (fun t kt => ?_) ?_
 ·refine XS.iloadN X0.here hx rfl (hb hby d9_2) rfl ?_
  show Steps p.tables e below (s₁.setTop (fr_bs2 m y p1 3  [(.int (0 : Int32)), (.int (8 : Int32))])) t
  refine XS.iloadN X0.here hx rfl (hb hby d9_3) rfl ?_
  exact kt
 obtain ⟨vv21, _, ⟨T21, L21, k21, n21⟩, -, X21, ⟨Lc21, hQ21, l21, y21, z21⟩, st21⟩ := Jvm.LawKit.callS X0 hx (y := (⟨"java/util/Arrays", "rangeCheck", "(III)V"⟩ : MethodName)) hown (mvT hZ (Wd83 hw)) (mvT hZ (Wd84 hw)) (mvT hZ (Wd81 hw)) (mvT hZ (Wd85 hw)) (by decide) (backOf (W := 0) (c_rc2 l Z a0 hw []  h0 n0 Z0 ) hZ (Wd85 hw) (Wd81 hw) (by decide) (by decide)) (g := (fr_bs2 m y p1 4  [(.int (2 : Int32)), (.int (0 : Int32)), (.int (8 : Int32))])) rfl (by rw [hml]; rfl) (argsL := [(.int (8 : Int32)), (.int (0 : Int32)), (.int (2 : Int32))]) (rest := []) (lenOf pd_7 rfl) rfl (by show 2 * 0 + _ ≤ _; exact Nat.le_of_eq rfl) (hb hby d9_4) (fun _ _ => ⟨rfl, e0, (by decide : 0 + 0 ≤ _), (by decide : 0 + 0 ≤ _)⟩)
 dsimp only [Pt.U, Pt.locs, Pt.cells, Pt.slots] at X21 l21 y21 z21 st21 hQ21
 subst l21 y21 z21
 obtain ⟨rfl, Nq21, Eq21⟩ := hQ21
 have N22 := Fr.app N0 Nq21
 obtain ⟨Lh23, Xh23, Nh23⟩ := oHd 0 0 X21 N22 rfl rfl
 refine ownBy st21 ?_
 clear st21
 show ownG p.tables e below _ (T21.setTop (fr_bs2 m y p1 7  []))
 refine ownBy (A := T21.setTop (fr_bs2 m y p1 11  [(.int p1), (.int (2 : Int32)), (.int (0 : Int32)), (.ref y)])) (fun t kt => ?_) ?_
 ·refine XS.aloadN Xh23.here hx rfl (hb hby d9_7) rfl rfl ?_
  show Steps p.tables e below (T21.setTop (fr_bs2 m y p1 8  [(.ref y)])) t
  refine XS.iloadN Xh23.here hx rfl (hb hby d9_8) rfl ?_
  show Steps p.tables e below (T21.setTop (fr_bs2 m y p1 9  [(.int (0 : Int32)), (.ref y)])) t
  refine XS.iloadN Xh23.here hx rfl (hb hby d9_9) rfl ?_
  show Steps p.tables e below (T21.setTop (fr_bs2 m y p1 10  [(.int (2 : Int32)), (.int (0 : Int32)), (.ref y)])) t
  refine XS.iloadN Xh23.here hx rfl (hb hby d9_10) rfl ?_
  exact kt
 obtain ⟨vv24, _, ⟨T24, L24, k24, n24⟩, -, X24, ⟨Lc24, hQ24, l24, y24, z24⟩, st24⟩ := Jvm.LawKit.callS Xh23 hx (y := (⟨"java/util/Arrays", "binarySearch0", "([IIII)I"⟩ : MethodName)) hown (mvT hZ (Wd86 hw)) (mvT hZ (Wd87 hw)) (mvT hZ (Wd81 hw)) (mvT hZ (Wd88 hw)) (by decide) (backOf (W := 0) (c_bz2 l Z a0 hw [] y ky z0 z1 p1 h0 n0 Z0 Ay) hZ (Wd88 hw) (Wd81 hw) (by decide) (by decide)) (g := (fr_bs2 m y p1 11  [(.int p1), (.int (2 : Int32)), (.int (0 : Int32)), (.ref y)])) rfl (by rw [hml]; rfl) (argsL := [(.ref y), (.int (0 : Int32)), (.int (2 : Int32)), (.int p1)]) (rest := []) (lenOf pd_11 rfl) rfl (by show 2 * 0 + _ ≤ _; exact Nat.le_of_eq rfl) (hb hby d9_11) (fun _ _ => ⟨rfl, Eq21, (by decide : 0 + 0 ≤ _), (by decide : 0 + 0 ≤ _)⟩)
 dsimp only [Pt.U, Pt.locs, Pt.cells, Pt.slots] at X24 l24 y24 z24 st24 hQ24
 subst l24 y24 z24
 obtain ⟨r24, rfl, Nq24, Eq24, hB24⟩ := hQ24
 have N25 := Fr.app Nh23 Nq24
 obtain ⟨Lh26, Xh26, Nh26⟩ := oHd 0 0 X24 N25 rfl rfl
 refine ownBy st24 ?_
 clear st24
 show ownG p.tables e below _ (T24.setTop (fr_bs2 m y p1 14  [(.int r24)]))
 refine ownRet Xh26 Bd.notSynchronized (v := some (.int r24)) (fun h => by rw [Bd.returns] at h; cases h) ?_ (oLe rfl) (oLe rfl) (fun fs hr => retI Xh26 hx Bd.returns (hb hby d9_14) hr)
 show (Q_bs2 Z y ky z0 z1 p1 h0 n0) (some (.int r24)) T24.heap _
 rw [Eq24]
 exact ⟨_, rfl, Nh26, rfl, hB24⟩
abbrev fr_rc3 (m : MethodId)  (pc : Nat)  (st : List Value) : JFrame := mkF m pc #[.val (.int (8 : Int32)), .val (.int (0 : Int32)), .val (.int (3 : Int32))] st
def Q_rc3 (Z : State)  (h0 : Heap) (n0 : Nat) (v : Option Value) (h : Heap) (L : List Loc) : Prop := v = none ∧ Fr n0 L ∧ h = h0
theorem ef_rc3 (m : MethodId) (x0 : Int32) (x1 : Int32) (x2 : Int32)  : entryFrame m #[(.int x0), (.int x1), (.int x2)] 3 = mkF m 0 #[.val (.int x0), .val (.int x1), .val (.int x2)] [] := by first | (simp [entryFrame, mkF, argsToLocals, Value.category]; done) | rfl
set_option maxRecDepth 65536 in
set_option maxHeartbeats 40000000 in
theorem c_rc3 (l : Launch) (Z : State) (a0 : Array Value) (hw : ∀ d ∈ tables_1, d.before a0 Z = true) (ws : List Jvm.Cond)  (h0 : Heap) (n0 : Nat) (Z0 : n0 ≤ h0.size) :
  MetFree l (⟨"java/util/Arrays", "rangeCheck", "(III)V"⟩ : MethodName) (head1 (Jvm.Cond.code (⟨"java/util/Arrays", "rangeCheck", "(III)V"⟩ : MethodName) jdk_65_method_30_code 3 none :: ws) ({ frames := 0, cells := 0, slots := 0, locals := 0 } : Room)) (fun a U => a = #[(.int (8 : Int32)), (.int (0 : Int32)), (.int (3 : Int32))] ∧ Z.Warmed39 U.vm ∧ U.heap = h0) (fun _ _ _ _ _ => True) (fun _ U o U' => ∃ v L, o = .returned v ∧ (Q_rc3 Z  h0 n0) v U'.heap L ∧ FrameEnd U o U' L ({ frames := 0, cells := 0, slots := 0, locals := 0 } : Room).cells ({ frames := 0, cells := 0, slots := 0, locals := 0 } : Room).slots) := by
 refine MetFree.of_bodySF (plainFor_of_name pn_1) hisR ?_
 intro p e s m args below meth c s₁ Bd hml0 hP hK
 obtain ⟨rfl, hZ, hHp⟩ := hP
 have hx := Bd.exec
 have hby := Bd.bytes
 have hml : c.maxLocals = 3 := hml0
 have hown : s.vm.findClass "java/util/Arrays" = some m.cls := findClass_of_methodNamed Bd.named
 have hnm := (name_of_methodNamed Bd.named Bd.method).1
 have X0 : Stand p l e ({ frames := 0, cells := 0, slots := 0, locals := 0 } : Room) s m #[(.int (8 : Int32)), (.int (0 : Int32)), (.int (3 : Int32))] below meth c s₁ [] 0 0 := Stand.of_body Bd
 have e0 : s₁.heap = h0 := by rw [← hHp, Bd.state]; rfl
 have N0 := Fr.nil n0
 refine ownOut (P := (Q_rc3 Z  h0 n0)) ?_
 refine ownBy (A := s₁.setTop (mkF m 0 #[.val (.int (8 : Int32)), .val (.int (0 : Int32)), .val (.int (3 : Int32))] [])) (fun t k => castTop (ef_rc3 m (8 : Int32) (0 : Int32) (3 : Int32)) k) ?_
 refine ownBy (A := s₁.setTop (fr_rc3 m  73  [])) (fun t kt => ?_) ?_
 ·refine XS.iloadN X0.here hx rfl (hb hby d10_0) rfl ?_
  show Steps p.tables e below (s₁.setTop (fr_rc3 m  1  [(.int (0 : Int32))])) t
  refine XS.iloadN X0.here hx rfl (hb hby d10_1) rfl ?_
  show Steps p.tables e below (s₁.setTop (fr_rc3 m  2  [(.int (3 : Int32)), (.int (0 : Int32))])) t
  refine XS.icmpYes X0.here hx rfl (pc0 := 2) (pc' := 46) rfl (hb hby d10_2) rfl (flt ((by decide) : ¬ ((3 : Int32) < (0 : Int32)))).2.2.2 (by decide) (by decide) ?_
  show Steps p.tables e below (s₁.setTop (fr_rc3 m  46  [])) t
  refine XS.iloadN X0.here hx rfl (hb hby d10_46) rfl ?_
  show Steps p.tables e below (s₁.setTop (fr_rc3 m  47  [(.int (0 : Int32))])) t
  refine XS.ifYes X0.here hx rfl (pc0 := 47) (pc' := 59) rfl (hb hby d10_47) rfl ((if0 _ _).trans (flt ((by decide) : ¬ ((0 : Int32) < (0 : Int32)))).2.1) (by decide) (by decide) ?_
  show Steps p.tables e below (s₁.setTop (fr_rc3 m  59  [])) t
  refine XS.iloadN X0.here hx rfl (hb hby d10_59) rfl ?_
  show Steps p.tables e below (s₁.setTop (fr_rc3 m  60  [(.int (3 : Int32))])) t
  refine XS.iloadN X0.here hx rfl (hb hby d10_60) rfl ?_
  show Steps p.tables e below (s₁.setTop (fr_rc3 m  61  [(.int (8 : Int32)), (.int (3 : Int32))])) t
  refine XS.icmpYes X0.here hx rfl (pc0 := 61) (pc' := 73) rfl (hb hby d10_61) rfl (flt ((by decide) : ¬ ((8 : Int32) < (3 : Int32)))).2.2.2 (by decide) (by decide) ?_
  exact kt
 refine ownRet X0 Bd.notSynchronized (v := none) (fun _ => rfl) ?_ (oLe rfl) (oLe rfl) (fun fs hr => X0.returnOut hx Bd.returns (hb hby d10_73) hr)
 show (Q_rc3 Z  h0 n0) (none) s₁.heap _
 rw [e0]
 exact ⟨rfl, N0, rfl⟩
abbrev fr_bz3 (m : MethodId) (y : Addr) (p1 : Int32) (pc : Nat) (x4_ x5_ x6_ x7_ : Slot) (st : List Value) : JFrame := mkF m pc #[.val (.ref y), .val (.int (0 : Int32)), .val (.int (3 : Int32)), .val (.int p1), x4_, x5_, x6_, x7_] st
def Q_bz3 (Z : State) (y : Addr) (ky : ClassId) (z0 : Int32) (z1 : Int32) (z2 : Int32) (p1 : Int32) (h0 : Heap) (n0 : Nat) (v : Option Value) (h : Heap) (L : List Loc) : Prop := ∃ r : Int32, v = some (.int r) ∧ Fr n0 L ∧ h = h0 ∧ ((z1 < p1 ∧ z2 < p1 ∧ r = (-4 : Int32)) ∨ (z1 < p1 ∧ ¬ (z2 < p1) ∧ p1 < z2 ∧ r = (-3 : Int32)) ∨ (z1 < p1 ∧ ¬ (z2 < p1) ∧ ¬ (p1 < z2) ∧ r = (2 : Int32)) ∨ (¬ (z1 < p1) ∧ p1 < z1 ∧ z0 < p1 ∧ r = (-2 : Int32)) ∨ (¬ (z1 < p1) ∧ p1 < z1 ∧ ¬ (z0 < p1) ∧ p1 < z0 ∧ r = (-1 : Int32)) ∨ (¬ (z1 < p1) ∧ p1 < z1 ∧ ¬ (z0 < p1) ∧ ¬ (p1 < z0) ∧ r = (0 : Int32)) ∨ (¬ (z1 < p1) ∧ ¬ (p1 < z1) ∧ r = (1 : Int32)))
theorem ef_bz3 (m : MethodId) (x0 : Addr) (x1 : Int32) (x2 : Int32) (x3 : Int32)  : entryFrame m #[(.ref x0), (.int x1), (.int x2), (.int x3)] 8 = mkF m 0 #[.val (.ref x0), .val (.int x1), .val (.int x2), .val (.int x3), .unset, .unset, .unset, .unset] [] := by first | (simp [entryFrame, mkF, argsToLocals, Value.category]; done) | rfl
set_option maxRecDepth 65536 in
set_option maxHeartbeats 40000000 in
theorem c_bz3 (l : Launch) (Z : State) (a0 : Array Value) (hw : ∀ d ∈ tables_1, d.before a0 Z = true) (ws : List Jvm.Cond) (y : Addr) (ky : ClassId) (z0 : Int32) (z1 : Int32) (z2 : Int32) (p1 : Int32) (h0 : Heap) (n0 : Nat) (Z0 : n0 ≤ h0.size) (Ay : Arv Z h0 y ky .int (8 : Int32) [(.int z0), (.int z1), (.int z2), (.int (0 : Int32)), (.int (0 : Int32)), (.int (0 : Int32)), (.int (0 : Int32)), (.int (0 : Int32))] (.int (0 : Int32))) :
  MetFree l (⟨"java/util/Arrays", "binarySearch0", "([IIII)I"⟩ : MethodName) (head1 (Jvm.Cond.code (⟨"java/util/Arrays", "binarySearch0", "([IIII)I"⟩ : MethodName) jdk_65_method_59_code 8 (some .int) :: ws) ({ frames := 0, cells := 0, slots := 0, locals := 0 } : Room)) (fun a U => a = #[(.ref y), (.int (0 : Int32)), (.int (3 : Int32)), (.int p1)] ∧ Z.Warmed39 U.vm ∧ U.heap = h0) (fun _ _ _ _ _ => True) (fun _ U o U' => ∃ v L, o = .returned v ∧ (Q_bz3 Z y ky z0 z1 z2 p1 h0 n0) v U'.heap L ∧ FrameEnd U o U' L ({ frames := 0, cells := 0, slots := 0, locals := 0 } : Room).cells ({ frames := 0, cells := 0, slots := 0, locals := 0 } : Room).slots) := by
 refine MetFree.of_bodySF (plainFor_of_name pn_1) hisR ?_
 intro p e s m args below meth c s₁ Bd hml0 hP hK
 obtain ⟨rfl, hZ, hHp⟩ := hP
 have hx := Bd.exec
 have hby := Bd.bytes
 have hml : c.maxLocals = 8 := hml0
 have hown : s.vm.findClass "java/util/Arrays" = some m.cls := findClass_of_methodNamed Bd.named
 have hnm := (name_of_methodNamed Bd.named Bd.method).1
 have X0 : Stand p l e ({ frames := 0, cells := 0, slots := 0, locals := 0 } : Room) s m #[(.ref y), (.int (0 : Int32)), (.int (3 : Int32)), (.int p1)] below meth c s₁ [] 0 0 := Stand.of_body Bd
 have e0 : s₁.heap = h0 := by rw [← hHp, Bd.state]; rfl
 have N0 := Fr.nil n0
 refine ownOut (P := (Q_bz3 Z y ky z0 z1 z2 p1 h0 n0)) ?_
 refine ownBy (A := s₁.setTop (mkF m 0 #[.val (.ref y), .val (.int (0 : Int32)), .val (.int (3 : Int32)), .val (.int p1), .unset, .unset, .unset, .unset] [])) (fun t k => castTop (ef_bz3 m y (0 : Int32) (3 : Int32) p1) k) ?_
 refine ownBy (A := s₁.setTop (fr_bz3 m y p1 27 (.val (.int (0 : Int32))) (.val (.int (2 : Int32))) (.val (.int (1 : Int32))) .unset [(.int (1 : Int32)), (.ref y)])) (fun t kt => ?_) ?_
 ·refine XS.iloadN X0.here hx rfl (hb hby d11_0) rfl ?_
  show Steps p.tables e below (s₁.setTop (fr_bz3 m y p1 1 .unset .unset .unset .unset [(.int (0 : Int32))])) t
  refine XS.istore X0.here hx rfl (hb hby d11_1) rfl (l' := #[.val (.ref y), .val (.int (0 : Int32)), .val (.int (3 : Int32)), .val (.int p1), .val (.int (0 : Int32)), .unset, .unset, .unset]) rfl ?_
  show Steps p.tables e below (s₁.setTop (fr_bz3 m y p1 3 (.val (.int (0 : Int32))) .unset .unset .unset [])) t
  refine XS.iloadN X0.here hx rfl (hb hby d11_3) rfl ?_
  show Steps p.tables e below (s₁.setTop (fr_bz3 m y p1 4 (.val (.int (0 : Int32))) .unset .unset .unset [(.int (3 : Int32))])) t
  refine XS.iconst X0.here hx rfl (hb hby d11_4) ?_
  show Steps p.tables e below (s₁.setTop (fr_bz3 m y p1 5 (.val (.int (0 : Int32))) .unset .unset .unset [(.int (1 : Int32)), (.int (3 : Int32))])) t
  refine XS.isub X0.here hx rfl (hb hby d11_5) rfl ?_
  show Steps p.tables e below (s₁.setTop (fr_bz3 m y p1 6 (.val (.int (0 : Int32))) .unset .unset .unset [(.int (2 : Int32))])) t
  refine XS.istore X0.here hx rfl (hb hby d11_6) rfl (l' := #[.val (.ref y), .val (.int (0 : Int32)), .val (.int (3 : Int32)), .val (.int p1), .val (.int (0 : Int32)), .val (.int (2 : Int32)), .unset, .unset]) rfl ?_
  show Steps p.tables e below (s₁.setTop (fr_bz3 m y p1 8 (.val (.int (0 : Int32))) (.val (.int (2 : Int32))) .unset .unset [])) t
  refine XS.iload X0.here hx rfl (hb hby d11_8) rfl ?_
  show Steps p.tables e below (s₁.setTop (fr_bz3 m y p1 10 (.val (.int (0 : Int32))) (.val (.int (2 : Int32))) .unset .unset [(.int (0 : Int32))])) t
  refine XS.iload X0.here hx rfl (hb hby d11_10) rfl ?_
  show Steps p.tables e below (s₁.setTop (fr_bz3 m y p1 12 (.val (.int (0 : Int32))) (.val (.int (2 : Int32))) .unset .unset [(.int (2 : Int32)), (.int (0 : Int32))])) t
  refine XS.icmpNo X0.here hx rfl (hb hby d11_12) rfl (flt ((by decide) : ¬ ((2 : Int32) < (0 : Int32)))).2.2.1 ?_
  show Steps p.tables e below (s₁.setTop (fr_bz3 m y p1 15 (.val (.int (0 : Int32))) (.val (.int (2 : Int32))) .unset .unset [])) t
  refine XS.iload X0.here hx rfl (hb hby d11_15) rfl ?_
  show Steps p.tables e below (s₁.setTop (fr_bz3 m y p1 17 (.val (.int (0 : Int32))) (.val (.int (2 : Int32))) .unset .unset [(.int (0 : Int32))])) t
  refine XS.iload X0.here hx rfl (hb hby d11_17) rfl ?_
  show Steps p.tables e below (s₁.setTop (fr_bz3 m y p1 19 (.val (.int (0 : Int32))) (.val (.int (2 : Int32))) .unset .unset [(.int (2 : Int32)), (.int (0 : Int32))])) t
  refine XS.iadd X0.here hx rfl (hb hby d11_19) rfl ?_
  show Steps p.tables e below (s₁.setTop (fr_bz3 m y p1 20 (.val (.int (0 : Int32))) (.val (.int (2 : Int32))) .unset .unset [(.int (2 : Int32))])) t
  refine XS.iconst X0.here hx rfl (hb hby d11_20) ?_
  show Steps p.tables e below (s₁.setTop (fr_bz3 m y p1 21 (.val (.int (0 : Int32))) (.val (.int (2 : Int32))) .unset .unset [(.int (1 : Int32)), (.int (2 : Int32))])) t
  refine XS.iushr X0.here hx rfl (hb hby d11_21) rfl ?_
  show Steps p.tables e below (s₁.setTop (fr_bz3 m y p1 22 (.val (.int (0 : Int32))) (.val (.int (2 : Int32))) .unset .unset [(.int (1 : Int32))])) t
  refine XS.istore X0.here hx rfl (hb hby d11_22) rfl (l' := #[.val (.ref y), .val (.int (0 : Int32)), .val (.int (3 : Int32)), .val (.int p1), .val (.int (0 : Int32)), .val (.int (2 : Int32)), .val (.int (1 : Int32)), .unset]) rfl ?_
  show Steps p.tables e below (s₁.setTop (fr_bz3 m y p1 24 (.val (.int (0 : Int32))) (.val (.int (2 : Int32))) (.val (.int (1 : Int32))) .unset [])) t
  refine XS.aloadN X0.here hx rfl (hb hby d11_24) rfl rfl ?_
  show Steps p.tables e below (s₁.setTop (fr_bz3 m y p1 25 (.val (.int (0 : Int32))) (.val (.int (2 : Int32))) (.val (.int (1 : Int32))) .unset [(.ref y)])) t
  refine XS.iload X0.here hx rfl (hb hby d11_25) rfl ?_
  exact kt
 obtain ⟨cl27, Ar27, q27, S27, N27, H27, G27⟩ := id Ay
 have hin27 : ¬ ((1 : Int32) < 0 ∨ cl27.slots.size ≤ ((1 : Int32)).toNatClampNeg) := inb_of S27 ⟨by decide, by decide⟩
 have hat27 : cl27.slots[((1 : Int32)).toNatClampNeg]? = some (.int z1) := H27.at hin27 rfl
 have st27 := X0.iaload hx (j := (1 : Int32)) (v := (.int z1)) (by rw [e0]; exact Ar27.1) (State.isArrayOf_alike hZ.alike Ar27.2.1) Ar27.2.2 hin27 hat27 (g := (fr_bz3 m y p1 27 (.val (.int (0 : Int32))) (.val (.int (2 : Int32))) (.val (.int (1 : Int32))) .unset [(.int (1 : Int32)), (.ref y)])) rfl rfl (hb hby d11_27)
 refine ownBy st27 ?_
 show ownG p.tables e below _ (s₁.setTop (fr_bz3 m y p1 28 (.val (.int (0 : Int32))) (.val (.int (2 : Int32))) (.val (.int (1 : Int32))) .unset [(.int z1)]))
 refine ownBy (A := s₁.setTop (fr_bz3 m y p1 33 (.val (.int (0 : Int32))) (.val (.int (2 : Int32))) (.val (.int (1 : Int32))) (.val (.int z1)) [(.int p1), (.int z1)])) (fun t kt => ?_) ?_
 ·refine XS.istore X0.here hx rfl (hb hby d11_28) rfl (l' := #[.val (.ref y), .val (.int (0 : Int32)), .val (.int (3 : Int32)), .val (.int p1), .val (.int (0 : Int32)), .val (.int (2 : Int32)), .val (.int (1 : Int32)), .val (.int z1)]) rfl ?_
  show Steps p.tables e below (s₁.setTop (fr_bz3 m y p1 30 (.val (.int (0 : Int32))) (.val (.int (2 : Int32))) (.val (.int (1 : Int32))) (.val (.int z1)) [])) t
  refine XS.iload X0.here hx rfl (hb hby d11_30) rfl ?_
  show Steps p.tables e below (s₁.setTop (fr_bz3 m y p1 32 (.val (.int (0 : Int32))) (.val (.int (2 : Int32))) (.val (.int (1 : Int32))) (.val (.int z1)) [(.int z1)])) t
  refine XS.iloadN X0.here hx rfl (hb hby d11_32) rfl ?_
  exact kt
 by_cases hc28 : z1 < p1
 ·skip
  refine ownBy (A := s₁.setTop (fr_bz3 m y p1 27 (.val (.int (2 : Int32))) (.val (.int (2 : Int32))) (.val (.int (2 : Int32))) (.val (.int z1)) [(.int (2 : Int32)), (.ref y)])) (fun t kt => ?_) ?_
  ·refine XS.icmpNo X0.here hx rfl (hb hby d11_33) rfl (tlt hc28).2.1 ?_
   show Steps p.tables e below (s₁.setTop (fr_bz3 m y p1 36 (.val (.int (0 : Int32))) (.val (.int (2 : Int32))) (.val (.int (1 : Int32))) (.val (.int z1)) [])) t
   refine XS.iload X0.here hx rfl (hb hby d11_36) rfl ?_
   show Steps p.tables e below (s₁.setTop (fr_bz3 m y p1 38 (.val (.int (0 : Int32))) (.val (.int (2 : Int32))) (.val (.int (1 : Int32))) (.val (.int z1)) [(.int (1 : Int32))])) t
   refine XS.iconst X0.here hx rfl (hb hby d11_38) ?_
   show Steps p.tables e below (s₁.setTop (fr_bz3 m y p1 39 (.val (.int (0 : Int32))) (.val (.int (2 : Int32))) (.val (.int (1 : Int32))) (.val (.int z1)) [(.int (1 : Int32)), (.int (1 : Int32))])) t
   refine XS.iadd X0.here hx rfl (hb hby d11_39) rfl ?_
   show Steps p.tables e below (s₁.setTop (fr_bz3 m y p1 40 (.val (.int (0 : Int32))) (.val (.int (2 : Int32))) (.val (.int (1 : Int32))) (.val (.int z1)) [(.int (2 : Int32))])) t
   refine XS.istore X0.here hx rfl (hb hby d11_40) rfl (l' := #[.val (.ref y), .val (.int (0 : Int32)), .val (.int (3 : Int32)), .val (.int p1), .val (.int (2 : Int32)), .val (.int (2 : Int32)), .val (.int (1 : Int32)), .val (.int z1)]) rfl ?_
   show Steps p.tables e below (s₁.setTop (fr_bz3 m y p1 42 (.val (.int (2 : Int32))) (.val (.int (2 : Int32))) (.val (.int (1 : Int32))) (.val (.int z1)) [])) t
   refine XS.goto X0.here hx rfl (pc0 := 42) (pc' := 63) rfl (hb hby d11_42) (by decide) (by decide) ?_
   show Steps p.tables e below (s₁.setTop (fr_bz3 m y p1 63 (.val (.int (2 : Int32))) (.val (.int (2 : Int32))) (.val (.int (1 : Int32))) (.val (.int z1)) [])) t
   refine XS.goto X0.here hx rfl (pc0 := 63) (pc' := 8) rfl (hb hby d11_63) (by decide) (by decide) ?_
   show Steps p.tables e below (s₁.setTop (fr_bz3 m y p1 8 (.val (.int (2 : Int32))) (.val (.int (2 : Int32))) (.val (.int (1 : Int32))) (.val (.int z1)) [])) t
   refine XS.iload X0.here hx rfl (hb hby d11_8) rfl ?_
   show Steps p.tables e below (s₁.setTop (fr_bz3 m y p1 10 (.val (.int (2 : Int32))) (.val (.int (2 : Int32))) (.val (.int (1 : Int32))) (.val (.int z1)) [(.int (2 : Int32))])) t
   refine XS.iload X0.here hx rfl (hb hby d11_10) rfl ?_
   show Steps p.tables e below (s₁.setTop (fr_bz3 m y p1 12 (.val (.int (2 : Int32))) (.val (.int (2 : Int32))) (.val (.int (1 : Int32))) (.val (.int z1)) [(.int (2 : Int32)), (.int (2 : Int32))])) t
   refine XS.icmpNo X0.here hx rfl (hb hby d11_12) rfl (flt ((by decide) : ¬ ((2 : Int32) < (2 : Int32)))).2.2.1 ?_
   show Steps p.tables e below (s₁.setTop (fr_bz3 m y p1 15 (.val (.int (2 : Int32))) (.val (.int (2 : Int32))) (.val (.int (1 : Int32))) (.val (.int z1)) [])) t
   refine XS.iload X0.here hx rfl (hb hby d11_15) rfl ?_
   show Steps p.tables e below (s₁.setTop (fr_bz3 m y p1 17 (.val (.int (2 : Int32))) (.val (.int (2 : Int32))) (.val (.int (1 : Int32))) (.val (.int z1)) [(.int (2 : Int32))])) t
   refine XS.iload X0.here hx rfl (hb hby d11_17) rfl ?_
   show Steps p.tables e below (s₁.setTop (fr_bz3 m y p1 19 (.val (.int (2 : Int32))) (.val (.int (2 : Int32))) (.val (.int (1 : Int32))) (.val (.int z1)) [(.int (2 : Int32)), (.int (2 : Int32))])) t
   refine XS.iadd X0.here hx rfl (hb hby d11_19) rfl ?_
   show Steps p.tables e below (s₁.setTop (fr_bz3 m y p1 20 (.val (.int (2 : Int32))) (.val (.int (2 : Int32))) (.val (.int (1 : Int32))) (.val (.int z1)) [(.int (4 : Int32))])) t
   refine XS.iconst X0.here hx rfl (hb hby d11_20) ?_
   show Steps p.tables e below (s₁.setTop (fr_bz3 m y p1 21 (.val (.int (2 : Int32))) (.val (.int (2 : Int32))) (.val (.int (1 : Int32))) (.val (.int z1)) [(.int (1 : Int32)), (.int (4 : Int32))])) t
   refine XS.iushr X0.here hx rfl (hb hby d11_21) rfl ?_
   show Steps p.tables e below (s₁.setTop (fr_bz3 m y p1 22 (.val (.int (2 : Int32))) (.val (.int (2 : Int32))) (.val (.int (1 : Int32))) (.val (.int z1)) [(.int (2 : Int32))])) t
   refine XS.istore X0.here hx rfl (hb hby d11_22) rfl (l' := #[.val (.ref y), .val (.int (0 : Int32)), .val (.int (3 : Int32)), .val (.int p1), .val (.int (2 : Int32)), .val (.int (2 : Int32)), .val (.int (2 : Int32)), .val (.int z1)]) rfl ?_
   show Steps p.tables e below (s₁.setTop (fr_bz3 m y p1 24 (.val (.int (2 : Int32))) (.val (.int (2 : Int32))) (.val (.int (2 : Int32))) (.val (.int z1)) [])) t
   refine XS.aloadN X0.here hx rfl (hb hby d11_24) rfl rfl ?_
   show Steps p.tables e below (s₁.setTop (fr_bz3 m y p1 25 (.val (.int (2 : Int32))) (.val (.int (2 : Int32))) (.val (.int (2 : Int32))) (.val (.int z1)) [(.ref y)])) t
   refine XS.iload X0.here hx rfl (hb hby d11_25) rfl ?_
   exact kt
  obtain ⟨cl29, Ar29, q29, S29, N29, H29, G29⟩ := id Ay
  have hin29 : ¬ ((2 : Int32) < 0 ∨ cl29.slots.size ≤ ((2 : Int32)).toNatClampNeg) := inb_of S29 ⟨by decide, by decide⟩
  have hat29 : cl29.slots[((2 : Int32)).toNatClampNeg]? = some (.int z2) := H29.at hin29 rfl
  have st29 := X0.iaload hx (j := (2 : Int32)) (v := (.int z2)) (by rw [e0]; exact Ar29.1) (State.isArrayOf_alike hZ.alike Ar29.2.1) Ar29.2.2 hin29 hat29 (g := (fr_bz3 m y p1 27 (.val (.int (2 : Int32))) (.val (.int (2 : Int32))) (.val (.int (2 : Int32))) (.val (.int z1)) [(.int (2 : Int32)), (.ref y)])) rfl rfl (hb hby d11_27)
  refine ownBy st29 ?_
  show ownG p.tables e below _ (s₁.setTop (fr_bz3 m y p1 28 (.val (.int (2 : Int32))) (.val (.int (2 : Int32))) (.val (.int (2 : Int32))) (.val (.int z1)) [(.int z2)]))
  refine ownBy (A := s₁.setTop (fr_bz3 m y p1 33 (.val (.int (2 : Int32))) (.val (.int (2 : Int32))) (.val (.int (2 : Int32))) (.val (.int z2)) [(.int p1), (.int z2)])) (fun t kt => ?_) ?_
  ·refine XS.istore X0.here hx rfl (hb hby d11_28) rfl (l' := #[.val (.ref y), .val (.int (0 : Int32)), .val (.int (3 : Int32)), .val (.int p1), .val (.int (2 : Int32)), .val (.int (2 : Int32)), .val (.int (2 : Int32)), .val (.int z2)]) rfl ?_
   show Steps p.tables e below (s₁.setTop (fr_bz3 m y p1 30 (.val (.int (2 : Int32))) (.val (.int (2 : Int32))) (.val (.int (2 : Int32))) (.val (.int z2)) [])) t
   refine XS.iload X0.here hx rfl (hb hby d11_30) rfl ?_
   show Steps p.tables e below (s₁.setTop (fr_bz3 m y p1 32 (.val (.int (2 : Int32))) (.val (.int (2 : Int32))) (.val (.int (2 : Int32))) (.val (.int z2)) [(.int z2)])) t
   refine XS.iloadN X0.here hx rfl (hb hby d11_32) rfl ?_
   exact kt
  by_cases hc30 : z2 < p1
  ·skip
   refine ownBy (A := s₁.setTop (fr_bz3 m y p1 71 (.val (.int (3 : Int32))) (.val (.int (2 : Int32))) (.val (.int (2 : Int32))) (.val (.int z2)) [(.int (-4 : Int32))])) (fun t kt => ?_) ?_
   ·refine XS.icmpNo X0.here hx rfl (hb hby d11_33) rfl (tlt hc30).2.1 ?_
    show Steps p.tables e below (s₁.setTop (fr_bz3 m y p1 36 (.val (.int (2 : Int32))) (.val (.int (2 : Int32))) (.val (.int (2 : Int32))) (.val (.int z2)) [])) t
    refine XS.iload X0.here hx rfl (hb hby d11_36) rfl ?_
    show Steps p.tables e below (s₁.setTop (fr_bz3 m y p1 38 (.val (.int (2 : Int32))) (.val (.int (2 : Int32))) (.val (.int (2 : Int32))) (.val (.int z2)) [(.int (2 : Int32))])) t
    refine XS.iconst X0.here hx rfl (hb hby d11_38) ?_
    show Steps p.tables e below (s₁.setTop (fr_bz3 m y p1 39 (.val (.int (2 : Int32))) (.val (.int (2 : Int32))) (.val (.int (2 : Int32))) (.val (.int z2)) [(.int (1 : Int32)), (.int (2 : Int32))])) t
    refine XS.iadd X0.here hx rfl (hb hby d11_39) rfl ?_
    show Steps p.tables e below (s₁.setTop (fr_bz3 m y p1 40 (.val (.int (2 : Int32))) (.val (.int (2 : Int32))) (.val (.int (2 : Int32))) (.val (.int z2)) [(.int (3 : Int32))])) t
    refine XS.istore X0.here hx rfl (hb hby d11_40) rfl (l' := #[.val (.ref y), .val (.int (0 : Int32)), .val (.int (3 : Int32)), .val (.int p1), .val (.int (3 : Int32)), .val (.int (2 : Int32)), .val (.int (2 : Int32)), .val (.int z2)]) rfl ?_
    show Steps p.tables e below (s₁.setTop (fr_bz3 m y p1 42 (.val (.int (3 : Int32))) (.val (.int (2 : Int32))) (.val (.int (2 : Int32))) (.val (.int z2)) [])) t
    refine XS.goto X0.here hx rfl (pc0 := 42) (pc' := 63) rfl (hb hby d11_42) (by decide) (by decide) ?_
    show Steps p.tables e below (s₁.setTop (fr_bz3 m y p1 63 (.val (.int (3 : Int32))) (.val (.int (2 : Int32))) (.val (.int (2 : Int32))) (.val (.int z2)) [])) t
    refine XS.goto X0.here hx rfl (pc0 := 63) (pc' := 8) rfl (hb hby d11_63) (by decide) (by decide) ?_
    show Steps p.tables e below (s₁.setTop (fr_bz3 m y p1 8 (.val (.int (3 : Int32))) (.val (.int (2 : Int32))) (.val (.int (2 : Int32))) (.val (.int z2)) [])) t
    refine XS.iload X0.here hx rfl (hb hby d11_8) rfl ?_
    show Steps p.tables e below (s₁.setTop (fr_bz3 m y p1 10 (.val (.int (3 : Int32))) (.val (.int (2 : Int32))) (.val (.int (2 : Int32))) (.val (.int z2)) [(.int (3 : Int32))])) t
    refine XS.iload X0.here hx rfl (hb hby d11_10) rfl ?_
    show Steps p.tables e below (s₁.setTop (fr_bz3 m y p1 12 (.val (.int (3 : Int32))) (.val (.int (2 : Int32))) (.val (.int (2 : Int32))) (.val (.int z2)) [(.int (2 : Int32)), (.int (3 : Int32))])) t
    refine XS.icmpYes X0.here hx rfl (pc0 := 12) (pc' := 66) rfl (hb hby d11_12) rfl (tlt ((by decide) : (2 : Int32) < (3 : Int32))).2.2.1 (by decide) (by decide) ?_
    show Steps p.tables e below (s₁.setTop (fr_bz3 m y p1 66 (.val (.int (3 : Int32))) (.val (.int (2 : Int32))) (.val (.int (2 : Int32))) (.val (.int z2)) [])) t
    refine XS.iload X0.here hx rfl (hb hby d11_66) rfl ?_
    show Steps p.tables e below (s₁.setTop (fr_bz3 m y p1 68 (.val (.int (3 : Int32))) (.val (.int (2 : Int32))) (.val (.int (2 : Int32))) (.val (.int z2)) [(.int (3 : Int32))])) t
    refine XS.iconst X0.here hx rfl (hb hby d11_68) ?_
    show Steps p.tables e below (s₁.setTop (fr_bz3 m y p1 69 (.val (.int (3 : Int32))) (.val (.int (2 : Int32))) (.val (.int (2 : Int32))) (.val (.int z2)) [(.int (1 : Int32)), (.int (3 : Int32))])) t
    refine XS.iadd X0.here hx rfl (hb hby d11_69) rfl ?_
    show Steps p.tables e below (s₁.setTop (fr_bz3 m y p1 70 (.val (.int (3 : Int32))) (.val (.int (2 : Int32))) (.val (.int (2 : Int32))) (.val (.int z2)) [(.int (4 : Int32))])) t
    refine XS.ineg X0.here hx rfl (hb hby d11_70) rfl ?_
    exact kt
   refine ownRet X0 Bd.notSynchronized (v := some (.int (-4 : Int32))) (fun h => by rw [Bd.returns] at h; cases h) ?_ (oLe rfl) (oLe rfl) (fun fs hr => retI X0 hx Bd.returns (hb hby d11_71) hr)
   show (Q_bz3 Z y ky z0 z1 z2 p1 h0 n0) (some (.int (-4 : Int32))) s₁.heap _
   rw [e0]
   exact ⟨_, rfl, N0, rfl, Or.inl ⟨hc28, hc30, rfl⟩⟩
  ·skip
   refine ownBy (A := s₁.setTop (fr_bz3 m y p1 48 (.val (.int (2 : Int32))) (.val (.int (2 : Int32))) (.val (.int (2 : Int32))) (.val (.int z2)) [(.int p1), (.int z2)])) (fun t kt => ?_) ?_
   ·refine XS.icmpYes X0.here hx rfl (pc0 := 33) (pc' := 45) rfl (hb hby d11_33) rfl (flt hc30).2.1 (by decide) (by decide) ?_
    show Steps p.tables e below (s₁.setTop (fr_bz3 m y p1 45 (.val (.int (2 : Int32))) (.val (.int (2 : Int32))) (.val (.int (2 : Int32))) (.val (.int z2)) [])) t
    refine XS.iload X0.here hx rfl (hb hby d11_45) rfl ?_
    show Steps p.tables e below (s₁.setTop (fr_bz3 m y p1 47 (.val (.int (2 : Int32))) (.val (.int (2 : Int32))) (.val (.int (2 : Int32))) (.val (.int z2)) [(.int z2)])) t
    refine XS.iloadN X0.here hx rfl (hb hby d11_47) rfl ?_
    exact kt
   by_cases hc31 : p1 < z2
   ·skip
    refine ownBy (A := s₁.setTop (fr_bz3 m y p1 71 (.val (.int (2 : Int32))) (.val (.int (1 : Int32))) (.val (.int (2 : Int32))) (.val (.int z2)) [(.int (-3 : Int32))])) (fun t kt => ?_) ?_
    ·refine XS.icmpNo X0.here hx rfl (hb hby d11_48) rfl (tlt hc31).2.2.2 ?_
     show Steps p.tables e below (s₁.setTop (fr_bz3 m y p1 51 (.val (.int (2 : Int32))) (.val (.int (2 : Int32))) (.val (.int (2 : Int32))) (.val (.int z2)) [])) t
     refine XS.iload X0.here hx rfl (hb hby d11_51) rfl ?_
     show Steps p.tables e below (s₁.setTop (fr_bz3 m y p1 53 (.val (.int (2 : Int32))) (.val (.int (2 : Int32))) (.val (.int (2 : Int32))) (.val (.int z2)) [(.int (2 : Int32))])) t
     refine XS.iconst X0.here hx rfl (hb hby d11_53) ?_
     show Steps p.tables e below (s₁.setTop (fr_bz3 m y p1 54 (.val (.int (2 : Int32))) (.val (.int (2 : Int32))) (.val (.int (2 : Int32))) (.val (.int z2)) [(.int (1 : Int32)), (.int (2 : Int32))])) t
     refine XS.isub X0.here hx rfl (hb hby d11_54) rfl ?_
     show Steps p.tables e below (s₁.setTop (fr_bz3 m y p1 55 (.val (.int (2 : Int32))) (.val (.int (2 : Int32))) (.val (.int (2 : Int32))) (.val (.int z2)) [(.int (1 : Int32))])) t
     refine XS.istore X0.here hx rfl (hb hby d11_55) rfl (l' := #[.val (.ref y), .val (.int (0 : Int32)), .val (.int (3 : Int32)), .val (.int p1), .val (.int (2 : Int32)), .val (.int (1 : Int32)), .val (.int (2 : Int32)), .val (.int z2)]) rfl ?_
     show Steps p.tables e below (s₁.setTop (fr_bz3 m y p1 57 (.val (.int (2 : Int32))) (.val (.int (1 : Int32))) (.val (.int (2 : Int32))) (.val (.int z2)) [])) t
     refine XS.goto X0.here hx rfl (pc0 := 57) (pc' := 63) rfl (hb hby d11_57) (by decide) (by decide) ?_
     show Steps p.tables e below (s₁.setTop (fr_bz3 m y p1 63 (.val (.int (2 : Int32))) (.val (.int (1 : Int32))) (.val (.int (2 : Int32))) (.val (.int z2)) [])) t
     refine XS.goto X0.here hx rfl (pc0 := 63) (pc' := 8) rfl (hb hby d11_63) (by decide) (by decide) ?_
     show Steps p.tables e below (s₁.setTop (fr_bz3 m y p1 8 (.val (.int (2 : Int32))) (.val (.int (1 : Int32))) (.val (.int (2 : Int32))) (.val (.int z2)) [])) t
     refine XS.iload X0.here hx rfl (hb hby d11_8) rfl ?_
     show Steps p.tables e below (s₁.setTop (fr_bz3 m y p1 10 (.val (.int (2 : Int32))) (.val (.int (1 : Int32))) (.val (.int (2 : Int32))) (.val (.int z2)) [(.int (2 : Int32))])) t
     refine XS.iload X0.here hx rfl (hb hby d11_10) rfl ?_
     show Steps p.tables e below (s₁.setTop (fr_bz3 m y p1 12 (.val (.int (2 : Int32))) (.val (.int (1 : Int32))) (.val (.int (2 : Int32))) (.val (.int z2)) [(.int (1 : Int32)), (.int (2 : Int32))])) t
     refine XS.icmpYes X0.here hx rfl (pc0 := 12) (pc' := 66) rfl (hb hby d11_12) rfl (tlt ((by decide) : (1 : Int32) < (2 : Int32))).2.2.1 (by decide) (by decide) ?_
     show Steps p.tables e below (s₁.setTop (fr_bz3 m y p1 66 (.val (.int (2 : Int32))) (.val (.int (1 : Int32))) (.val (.int (2 : Int32))) (.val (.int z2)) [])) t
     refine XS.iload X0.here hx rfl (hb hby d11_66) rfl ?_
     show Steps p.tables e below (s₁.setTop (fr_bz3 m y p1 68 (.val (.int (2 : Int32))) (.val (.int (1 : Int32))) (.val (.int (2 : Int32))) (.val (.int z2)) [(.int (2 : Int32))])) t
     refine XS.iconst X0.here hx rfl (hb hby d11_68) ?_
     show Steps p.tables e below (s₁.setTop (fr_bz3 m y p1 69 (.val (.int (2 : Int32))) (.val (.int (1 : Int32))) (.val (.int (2 : Int32))) (.val (.int z2)) [(.int (1 : Int32)), (.int (2 : Int32))])) t
     refine XS.iadd X0.here hx rfl (hb hby d11_69) rfl ?_
     show Steps p.tables e below (s₁.setTop (fr_bz3 m y p1 70 (.val (.int (2 : Int32))) (.val (.int (1 : Int32))) (.val (.int (2 : Int32))) (.val (.int z2)) [(.int (3 : Int32))])) t
     refine XS.ineg X0.here hx rfl (hb hby d11_70) rfl ?_
     exact kt
    refine ownRet X0 Bd.notSynchronized (v := some (.int (-3 : Int32))) (fun h => by rw [Bd.returns] at h; cases h) ?_ (oLe rfl) (oLe rfl) (fun fs hr => retI X0 hx Bd.returns (hb hby d11_71) hr)
    show (Q_bz3 Z y ky z0 z1 z2 p1 h0 n0) (some (.int (-3 : Int32))) s₁.heap _
    rw [e0]
    exact ⟨_, rfl, N0, rfl, Or.inr (Or.inl ⟨hc28, hc30, hc31, rfl⟩)⟩
   ·skip
    refine ownBy (A := s₁.setTop (fr_bz3 m y p1 62 (.val (.int (2 : Int32))) (.val (.int (2 : Int32))) (.val (.int (2 : Int32))) (.val (.int z2)) [(.int (2 : Int32))])) (fun t kt => ?_) ?_
    ·refine XS.icmpYes X0.here hx rfl (pc0 := 48) (pc' := 60) rfl (hb hby d11_48) rfl (flt hc31).2.2.2 (by decide) (by decide) ?_
     show Steps p.tables e below (s₁.setTop (fr_bz3 m y p1 60 (.val (.int (2 : Int32))) (.val (.int (2 : Int32))) (.val (.int (2 : Int32))) (.val (.int z2)) [])) t
     refine XS.iload X0.here hx rfl (hb hby d11_60) rfl ?_
     exact kt
    refine ownRet X0 Bd.notSynchronized (v := some (.int (2 : Int32))) (fun h => by rw [Bd.returns] at h; cases h) ?_ (oLe rfl) (oLe rfl) (fun fs hr => retI X0 hx Bd.returns (hb hby d11_62) hr)
    show (Q_bz3 Z y ky z0 z1 z2 p1 h0 n0) (some (.int (2 : Int32))) s₁.heap _
    rw [e0]
    exact ⟨_, rfl, N0, rfl, Or.inr (Or.inr (Or.inl ⟨hc28, hc30, hc31, rfl⟩))⟩
 ·skip
  refine ownBy (A := s₁.setTop (fr_bz3 m y p1 48 (.val (.int (0 : Int32))) (.val (.int (2 : Int32))) (.val (.int (1 : Int32))) (.val (.int z1)) [(.int p1), (.int z1)])) (fun t kt => ?_) ?_
  ·refine XS.icmpYes X0.here hx rfl (pc0 := 33) (pc' := 45) rfl (hb hby d11_33) rfl (flt hc28).2.1 (by decide) (by decide) ?_
   show Steps p.tables e below (s₁.setTop (fr_bz3 m y p1 45 (.val (.int (0 : Int32))) (.val (.int (2 : Int32))) (.val (.int (1 : Int32))) (.val (.int z1)) [])) t
   refine XS.iload X0.here hx rfl (hb hby d11_45) rfl ?_
   show Steps p.tables e below (s₁.setTop (fr_bz3 m y p1 47 (.val (.int (0 : Int32))) (.val (.int (2 : Int32))) (.val (.int (1 : Int32))) (.val (.int z1)) [(.int z1)])) t
   refine XS.iloadN X0.here hx rfl (hb hby d11_47) rfl ?_
   exact kt
  by_cases hc32 : p1 < z1
  ·skip
   refine ownBy (A := s₁.setTop (fr_bz3 m y p1 27 (.val (.int (0 : Int32))) (.val (.int (0 : Int32))) (.val (.int (0 : Int32))) (.val (.int z1)) [(.int (0 : Int32)), (.ref y)])) (fun t kt => ?_) ?_
   ·refine XS.icmpNo X0.here hx rfl (hb hby d11_48) rfl (tlt hc32).2.2.2 ?_
    show Steps p.tables e below (s₁.setTop (fr_bz3 m y p1 51 (.val (.int (0 : Int32))) (.val (.int (2 : Int32))) (.val (.int (1 : Int32))) (.val (.int z1)) [])) t
    refine XS.iload X0.here hx rfl (hb hby d11_51) rfl ?_
    show Steps p.tables e below (s₁.setTop (fr_bz3 m y p1 53 (.val (.int (0 : Int32))) (.val (.int (2 : Int32))) (.val (.int (1 : Int32))) (.val (.int z1)) [(.int (1 : Int32))])) t
    refine XS.iconst X0.here hx rfl (hb hby d11_53) ?_
    show Steps p.tables e below (s₁.setTop (fr_bz3 m y p1 54 (.val (.int (0 : Int32))) (.val (.int (2 : Int32))) (.val (.int (1 : Int32))) (.val (.int z1)) [(.int (1 : Int32)), (.int (1 : Int32))])) t
    refine XS.isub X0.here hx rfl (hb hby d11_54) rfl ?_
    show Steps p.tables e below (s₁.setTop (fr_bz3 m y p1 55 (.val (.int (0 : Int32))) (.val (.int (2 : Int32))) (.val (.int (1 : Int32))) (.val (.int z1)) [(.int (0 : Int32))])) t
    refine XS.istore X0.here hx rfl (hb hby d11_55) rfl (l' := #[.val (.ref y), .val (.int (0 : Int32)), .val (.int (3 : Int32)), .val (.int p1), .val (.int (0 : Int32)), .val (.int (0 : Int32)), .val (.int (1 : Int32)), .val (.int z1)]) rfl ?_
    show Steps p.tables e below (s₁.setTop (fr_bz3 m y p1 57 (.val (.int (0 : Int32))) (.val (.int (0 : Int32))) (.val (.int (1 : Int32))) (.val (.int z1)) [])) t
    refine XS.goto X0.here hx rfl (pc0 := 57) (pc' := 63) rfl (hb hby d11_57) (by decide) (by decide) ?_
    show Steps p.tables e below (s₁.setTop (fr_bz3 m y p1 63 (.val (.int (0 : Int32))) (.val (.int (0 : Int32))) (.val (.int (1 : Int32))) (.val (.int z1)) [])) t
    refine XS.goto X0.here hx rfl (pc0 := 63) (pc' := 8) rfl (hb hby d11_63) (by decide) (by decide) ?_
    show Steps p.tables e below (s₁.setTop (fr_bz3 m y p1 8 (.val (.int (0 : Int32))) (.val (.int (0 : Int32))) (.val (.int (1 : Int32))) (.val (.int z1)) [])) t
    refine XS.iload X0.here hx rfl (hb hby d11_8) rfl ?_
    show Steps p.tables e below (s₁.setTop (fr_bz3 m y p1 10 (.val (.int (0 : Int32))) (.val (.int (0 : Int32))) (.val (.int (1 : Int32))) (.val (.int z1)) [(.int (0 : Int32))])) t
    refine XS.iload X0.here hx rfl (hb hby d11_10) rfl ?_
    show Steps p.tables e below (s₁.setTop (fr_bz3 m y p1 12 (.val (.int (0 : Int32))) (.val (.int (0 : Int32))) (.val (.int (1 : Int32))) (.val (.int z1)) [(.int (0 : Int32)), (.int (0 : Int32))])) t
    refine XS.icmpNo X0.here hx rfl (hb hby d11_12) rfl (flt ((by decide) : ¬ ((0 : Int32) < (0 : Int32)))).2.2.1 ?_
    show Steps p.tables e below (s₁.setTop (fr_bz3 m y p1 15 (.val (.int (0 : Int32))) (.val (.int (0 : Int32))) (.val (.int (1 : Int32))) (.val (.int z1)) [])) t
    refine XS.iload X0.here hx rfl (hb hby d11_15) rfl ?_
    show Steps p.tables e below (s₁.setTop (fr_bz3 m y p1 17 (.val (.int (0 : Int32))) (.val (.int (0 : Int32))) (.val (.int (1 : Int32))) (.val (.int z1)) [(.int (0 : Int32))])) t
    refine XS.iload X0.here hx rfl (hb hby d11_17) rfl ?_
    show Steps p.tables e below (s₁.setTop (fr_bz3 m y p1 19 (.val (.int (0 : Int32))) (.val (.int (0 : Int32))) (.val (.int (1 : Int32))) (.val (.int z1)) [(.int (0 : Int32)), (.int (0 : Int32))])) t
    refine XS.iadd X0.here hx rfl (hb hby d11_19) rfl ?_
    show Steps p.tables e below (s₁.setTop (fr_bz3 m y p1 20 (.val (.int (0 : Int32))) (.val (.int (0 : Int32))) (.val (.int (1 : Int32))) (.val (.int z1)) [(.int (0 : Int32))])) t
    refine XS.iconst X0.here hx rfl (hb hby d11_20) ?_
    show Steps p.tables e below (s₁.setTop (fr_bz3 m y p1 21 (.val (.int (0 : Int32))) (.val (.int (0 : Int32))) (.val (.int (1 : Int32))) (.val (.int z1)) [(.int (1 : Int32)), (.int (0 : Int32))])) t
    refine XS.iushr X0.here hx rfl (hb hby d11_21) rfl ?_
    show Steps p.tables e below (s₁.setTop (fr_bz3 m y p1 22 (.val (.int (0 : Int32))) (.val (.int (0 : Int32))) (.val (.int (1 : Int32))) (.val (.int z1)) [(.int (0 : Int32))])) t
    refine XS.istore X0.here hx rfl (hb hby d11_22) rfl (l' := #[.val (.ref y), .val (.int (0 : Int32)), .val (.int (3 : Int32)), .val (.int p1), .val (.int (0 : Int32)), .val (.int (0 : Int32)), .val (.int (0 : Int32)), .val (.int z1)]) rfl ?_
    show Steps p.tables e below (s₁.setTop (fr_bz3 m y p1 24 (.val (.int (0 : Int32))) (.val (.int (0 : Int32))) (.val (.int (0 : Int32))) (.val (.int z1)) [])) t
    refine XS.aloadN X0.here hx rfl (hb hby d11_24) rfl rfl ?_
    show Steps p.tables e below (s₁.setTop (fr_bz3 m y p1 25 (.val (.int (0 : Int32))) (.val (.int (0 : Int32))) (.val (.int (0 : Int32))) (.val (.int z1)) [(.ref y)])) t
    refine XS.iload X0.here hx rfl (hb hby d11_25) rfl ?_
    exact kt
   obtain ⟨cl33, Ar33, q33, S33, N33, H33, G33⟩ := id Ay
   have hin33 : ¬ ((0 : Int32) < 0 ∨ cl33.slots.size ≤ ((0 : Int32)).toNatClampNeg) := inb_of S33 ⟨by decide, by decide⟩
   have hat33 : cl33.slots[((0 : Int32)).toNatClampNeg]? = some (.int z0) := H33.at hin33 rfl
   have st33 := X0.iaload hx (j := (0 : Int32)) (v := (.int z0)) (by rw [e0]; exact Ar33.1) (State.isArrayOf_alike hZ.alike Ar33.2.1) Ar33.2.2 hin33 hat33 (g := (fr_bz3 m y p1 27 (.val (.int (0 : Int32))) (.val (.int (0 : Int32))) (.val (.int (0 : Int32))) (.val (.int z1)) [(.int (0 : Int32)), (.ref y)])) rfl rfl (hb hby d11_27)
   refine ownBy st33 ?_
   show ownG p.tables e below _ (s₁.setTop (fr_bz3 m y p1 28 (.val (.int (0 : Int32))) (.val (.int (0 : Int32))) (.val (.int (0 : Int32))) (.val (.int z1)) [(.int z0)]))
   refine ownBy (A := s₁.setTop (fr_bz3 m y p1 33 (.val (.int (0 : Int32))) (.val (.int (0 : Int32))) (.val (.int (0 : Int32))) (.val (.int z0)) [(.int p1), (.int z0)])) (fun t kt => ?_) ?_
   ·refine XS.istore X0.here hx rfl (hb hby d11_28) rfl (l' := #[.val (.ref y), .val (.int (0 : Int32)), .val (.int (3 : Int32)), .val (.int p1), .val (.int (0 : Int32)), .val (.int (0 : Int32)), .val (.int (0 : Int32)), .val (.int z0)]) rfl ?_
    show Steps p.tables e below (s₁.setTop (fr_bz3 m y p1 30 (.val (.int (0 : Int32))) (.val (.int (0 : Int32))) (.val (.int (0 : Int32))) (.val (.int z0)) [])) t
    refine XS.iload X0.here hx rfl (hb hby d11_30) rfl ?_
    show Steps p.tables e below (s₁.setTop (fr_bz3 m y p1 32 (.val (.int (0 : Int32))) (.val (.int (0 : Int32))) (.val (.int (0 : Int32))) (.val (.int z0)) [(.int z0)])) t
    refine XS.iloadN X0.here hx rfl (hb hby d11_32) rfl ?_
    exact kt
   by_cases hc34 : z0 < p1
   ·skip
    refine ownBy (A := s₁.setTop (fr_bz3 m y p1 71 (.val (.int (1 : Int32))) (.val (.int (0 : Int32))) (.val (.int (0 : Int32))) (.val (.int z0)) [(.int (-2 : Int32))])) (fun t kt => ?_) ?_
    ·refine XS.icmpNo X0.here hx rfl (hb hby d11_33) rfl (tlt hc34).2.1 ?_
     show Steps p.tables e below (s₁.setTop (fr_bz3 m y p1 36 (.val (.int (0 : Int32))) (.val (.int (0 : Int32))) (.val (.int (0 : Int32))) (.val (.int z0)) [])) t
     refine XS.iload X0.here hx rfl (hb hby d11_36) rfl ?_
     show Steps p.tables e below (s₁.setTop (fr_bz3 m y p1 38 (.val (.int (0 : Int32))) (.val (.int (0 : Int32))) (.val (.int (0 : Int32))) (.val (.int z0)) [(.int (0 : Int32))])) t
     refine XS.iconst X0.here hx rfl (hb hby d11_38) ?_
     show Steps p.tables e below (s₁.setTop (fr_bz3 m y p1 39 (.val (.int (0 : Int32))) (.val (.int (0 : Int32))) (.val (.int (0 : Int32))) (.val (.int z0)) [(.int (1 : Int32)), (.int (0 : Int32))])) t
     refine XS.iadd X0.here hx rfl (hb hby d11_39) rfl ?_
     show Steps p.tables e below (s₁.setTop (fr_bz3 m y p1 40 (.val (.int (0 : Int32))) (.val (.int (0 : Int32))) (.val (.int (0 : Int32))) (.val (.int z0)) [(.int (1 : Int32))])) t
     refine XS.istore X0.here hx rfl (hb hby d11_40) rfl (l' := #[.val (.ref y), .val (.int (0 : Int32)), .val (.int (3 : Int32)), .val (.int p1), .val (.int (1 : Int32)), .val (.int (0 : Int32)), .val (.int (0 : Int32)), .val (.int z0)]) rfl ?_
     show Steps p.tables e below (s₁.setTop (fr_bz3 m y p1 42 (.val (.int (1 : Int32))) (.val (.int (0 : Int32))) (.val (.int (0 : Int32))) (.val (.int z0)) [])) t
     refine XS.goto X0.here hx rfl (pc0 := 42) (pc' := 63) rfl (hb hby d11_42) (by decide) (by decide) ?_
     show Steps p.tables e below (s₁.setTop (fr_bz3 m y p1 63 (.val (.int (1 : Int32))) (.val (.int (0 : Int32))) (.val (.int (0 : Int32))) (.val (.int z0)) [])) t
     refine XS.goto X0.here hx rfl (pc0 := 63) (pc' := 8) rfl (hb hby d11_63) (by decide) (by decide) ?_
     show Steps p.tables e below (s₁.setTop (fr_bz3 m y p1 8 (.val (.int (1 : Int32))) (.val (.int (0 : Int32))) (.val (.int (0 : Int32))) (.val (.int z0)) [])) t
     refine XS.iload X0.here hx rfl (hb hby d11_8) rfl ?_
     show Steps p.tables e below (s₁.setTop (fr_bz3 m y p1 10 (.val (.int (1 : Int32))) (.val (.int (0 : Int32))) (.val (.int (0 : Int32))) (.val (.int z0)) [(.int (1 : Int32))])) t
     refine XS.iload X0.here hx rfl (hb hby d11_10) rfl ?_
     show Steps p.tables e below (s₁.setTop (fr_bz3 m y p1 12 (.val (.int (1 : Int32))) (.val (.int (0 : Int32))) (.val (.int (0 : Int32))) (.val (.int z0)) [(.int (0 : Int32)), (.int (1 : Int32))])) t
     refine XS.icmpYes X0.here hx rfl (pc0 := 12) (pc' := 66) rfl (hb hby d11_12) rfl (tlt ((by decide) : (0 : Int32) < (1 : Int32))).2.2.1 (by decide) (by decide) ?_
     show Steps p.tables e below (s₁.setTop (fr_bz3 m y p1 66 (.val (.int (1 : Int32))) (.val (.int (0 : Int32))) (.val (.int (0 : Int32))) (.val (.int z0)) [])) t
     refine XS.iload X0.here hx rfl (hb hby d11_66) rfl ?_
     show Steps p.tables e below (s₁.setTop (fr_bz3 m y p1 68 (.val (.int (1 : Int32))) (.val (.int (0 : Int32))) (.val (.int (0 : Int32))) (.val (.int z0)) [(.int (1 : Int32))])) t
     refine XS.iconst X0.here hx rfl (hb hby d11_68) ?_
     show Steps p.tables e below (s₁.setTop (fr_bz3 m y p1 69 (.val (.int (1 : Int32))) (.val (.int (0 : Int32))) (.val (.int (0 : Int32))) (.val (.int z0)) [(.int (1 : Int32)), (.int (1 : Int32))])) t
     refine XS.iadd X0.here hx rfl (hb hby d11_69) rfl ?_
     show Steps p.tables e below (s₁.setTop (fr_bz3 m y p1 70 (.val (.int (1 : Int32))) (.val (.int (0 : Int32))) (.val (.int (0 : Int32))) (.val (.int z0)) [(.int (2 : Int32))])) t
     refine XS.ineg X0.here hx rfl (hb hby d11_70) rfl ?_
     exact kt
    refine ownRet X0 Bd.notSynchronized (v := some (.int (-2 : Int32))) (fun h => by rw [Bd.returns] at h; cases h) ?_ (oLe rfl) (oLe rfl) (fun fs hr => retI X0 hx Bd.returns (hb hby d11_71) hr)
    show (Q_bz3 Z y ky z0 z1 z2 p1 h0 n0) (some (.int (-2 : Int32))) s₁.heap _
    rw [e0]
    exact ⟨_, rfl, N0, rfl, Or.inr (Or.inr (Or.inr (Or.inl ⟨hc28, hc32, hc34, rfl⟩)))⟩
   ·skip
    refine ownBy (A := s₁.setTop (fr_bz3 m y p1 48 (.val (.int (0 : Int32))) (.val (.int (0 : Int32))) (.val (.int (0 : Int32))) (.val (.int z0)) [(.int p1), (.int z0)])) (fun t kt => ?_) ?_
    ·refine XS.icmpYes X0.here hx rfl (pc0 := 33) (pc' := 45) rfl (hb hby d11_33) rfl (flt hc34).2.1 (by decide) (by decide) ?_
     show Steps p.tables e below (s₁.setTop (fr_bz3 m y p1 45 (.val (.int (0 : Int32))) (.val (.int (0 : Int32))) (.val (.int (0 : Int32))) (.val (.int z0)) [])) t
     refine XS.iload X0.here hx rfl (hb hby d11_45) rfl ?_
     show Steps p.tables e below (s₁.setTop (fr_bz3 m y p1 47 (.val (.int (0 : Int32))) (.val (.int (0 : Int32))) (.val (.int (0 : Int32))) (.val (.int z0)) [(.int z0)])) t
     refine XS.iloadN X0.here hx rfl (hb hby d11_47) rfl ?_
     exact kt
    by_cases hc35 : p1 < z0
    ·skip
     refine ownBy (A := s₁.setTop (fr_bz3 m y p1 71 (.val (.int (0 : Int32))) (.val (.int (-1 : Int32))) (.val (.int (0 : Int32))) (.val (.int z0)) [(.int (-1 : Int32))])) (fun t kt => ?_) ?_
     ·refine XS.icmpNo X0.here hx rfl (hb hby d11_48) rfl (tlt hc35).2.2.2 ?_
      show Steps p.tables e below (s₁.setTop (fr_bz3 m y p1 51 (.val (.int (0 : Int32))) (.val (.int (0 : Int32))) (.val (.int (0 : Int32))) (.val (.int z0)) [])) t
      refine XS.iload X0.here hx rfl (hb hby d11_51) rfl ?_
      show Steps p.tables e below (s₁.setTop (fr_bz3 m y p1 53 (.val (.int (0 : Int32))) (.val (.int (0 : Int32))) (.val (.int (0 : Int32))) (.val (.int z0)) [(.int (0 : Int32))])) t
      refine XS.iconst X0.here hx rfl (hb hby d11_53) ?_
      show Steps p.tables e below (s₁.setTop (fr_bz3 m y p1 54 (.val (.int (0 : Int32))) (.val (.int (0 : Int32))) (.val (.int (0 : Int32))) (.val (.int z0)) [(.int (1 : Int32)), (.int (0 : Int32))])) t
      refine XS.isub X0.here hx rfl (hb hby d11_54) rfl ?_
      show Steps p.tables e below (s₁.setTop (fr_bz3 m y p1 55 (.val (.int (0 : Int32))) (.val (.int (0 : Int32))) (.val (.int (0 : Int32))) (.val (.int z0)) [(.int (-1 : Int32))])) t
      refine XS.istore X0.here hx rfl (hb hby d11_55) rfl (l' := #[.val (.ref y), .val (.int (0 : Int32)), .val (.int (3 : Int32)), .val (.int p1), .val (.int (0 : Int32)), .val (.int (-1 : Int32)), .val (.int (0 : Int32)), .val (.int z0)]) rfl ?_
      show Steps p.tables e below (s₁.setTop (fr_bz3 m y p1 57 (.val (.int (0 : Int32))) (.val (.int (-1 : Int32))) (.val (.int (0 : Int32))) (.val (.int z0)) [])) t
      refine XS.goto X0.here hx rfl (pc0 := 57) (pc' := 63) rfl (hb hby d11_57) (by decide) (by decide) ?_
      show Steps p.tables e below (s₁.setTop (fr_bz3 m y p1 63 (.val (.int (0 : Int32))) (.val (.int (-1 : Int32))) (.val (.int (0 : Int32))) (.val (.int z0)) [])) t
      refine XS.goto X0.here hx rfl (pc0 := 63) (pc' := 8) rfl (hb hby d11_63) (by decide) (by decide) ?_
      show Steps p.tables e below (s₁.setTop (fr_bz3 m y p1 8 (.val (.int (0 : Int32))) (.val (.int (-1 : Int32))) (.val (.int (0 : Int32))) (.val (.int z0)) [])) t
      refine XS.iload X0.here hx rfl (hb hby d11_8) rfl ?_
      show Steps p.tables e below (s₁.setTop (fr_bz3 m y p1 10 (.val (.int (0 : Int32))) (.val (.int (-1 : Int32))) (.val (.int (0 : Int32))) (.val (.int z0)) [(.int (0 : Int32))])) t
      refine XS.iload X0.here hx rfl (hb hby d11_10) rfl ?_
      show Steps p.tables e below (s₁.setTop (fr_bz3 m y p1 12 (.val (.int (0 : Int32))) (.val (.int (-1 : Int32))) (.val (.int (0 : Int32))) (.val (.int z0)) [(.int (-1 : Int32)), (.int (0 : Int32))])) t
      refine XS.icmpYes X0.here hx rfl (pc0 := 12) (pc' := 66) rfl (hb hby d11_12) rfl (tlt ((by decide) : (-1 : Int32) < (0 : Int32))).2.2.1 (by decide) (by decide) ?_
      show Steps p.tables e below (s₁.setTop (fr_bz3 m y p1 66 (.val (.int (0 : Int32))) (.val (.int (-1 : Int32))) (.val (.int (0 : Int32))) (.val (.int z0)) [])) t
      refine XS.iload X0.here hx rfl (hb hby d11_66) rfl ?_
      show Steps p.tables e below (s₁.setTop (fr_bz3 m y p1 68 (.val (.int (0 : Int32))) (.val (.int (-1 : Int32))) (.val (.int (0 : Int32))) (.val (.int z0)) [(.int (0 : Int32))])) t
      refine XS.iconst X0.here hx rfl (hb hby d11_68) ?_
      show Steps p.tables e below (s₁.setTop (fr_bz3 m y p1 69 (.val (.int (0 : Int32))) (.val (.int (-1 : Int32))) (.val (.int (0 : Int32))) (.val (.int z0)) [(.int (1 : Int32)), (.int (0 : Int32))])) t
      refine XS.iadd X0.here hx rfl (hb hby d11_69) rfl ?_
      show Steps p.tables e below (s₁.setTop (fr_bz3 m y p1 70 (.val (.int (0 : Int32))) (.val (.int (-1 : Int32))) (.val (.int (0 : Int32))) (.val (.int z0)) [(.int (1 : Int32))])) t
      refine XS.ineg X0.here hx rfl (hb hby d11_70) rfl ?_
      exact kt
     refine ownRet X0 Bd.notSynchronized (v := some (.int (-1 : Int32))) (fun h => by rw [Bd.returns] at h; cases h) ?_ (oLe rfl) (oLe rfl) (fun fs hr => retI X0 hx Bd.returns (hb hby d11_71) hr)
     show (Q_bz3 Z y ky z0 z1 z2 p1 h0 n0) (some (.int (-1 : Int32))) s₁.heap _
     rw [e0]
     exact ⟨_, rfl, N0, rfl, Or.inr (Or.inr (Or.inr (Or.inr (Or.inl ⟨hc28, hc32, hc34, hc35, rfl⟩))))⟩
    ·skip
     refine ownBy (A := s₁.setTop (fr_bz3 m y p1 62 (.val (.int (0 : Int32))) (.val (.int (0 : Int32))) (.val (.int (0 : Int32))) (.val (.int z0)) [(.int (0 : Int32))])) (fun t kt => ?_) ?_
     ·refine XS.icmpYes X0.here hx rfl (pc0 := 48) (pc' := 60) rfl (hb hby d11_48) rfl (flt hc35).2.2.2 (by decide) (by decide) ?_
      show Steps p.tables e below (s₁.setTop (fr_bz3 m y p1 60 (.val (.int (0 : Int32))) (.val (.int (0 : Int32))) (.val (.int (0 : Int32))) (.val (.int z0)) [])) t
      refine XS.iload X0.here hx rfl (hb hby d11_60) rfl ?_
      exact kt
     refine ownRet X0 Bd.notSynchronized (v := some (.int (0 : Int32))) (fun h => by rw [Bd.returns] at h; cases h) ?_ (oLe rfl) (oLe rfl) (fun fs hr => retI X0 hx Bd.returns (hb hby d11_62) hr)
     show (Q_bz3 Z y ky z0 z1 z2 p1 h0 n0) (some (.int (0 : Int32))) s₁.heap _
     rw [e0]
     exact ⟨_, rfl, N0, rfl, Or.inr (Or.inr (Or.inr (Or.inr (Or.inr (Or.inl ⟨hc28, hc32, hc34, hc35, rfl⟩)))))⟩
  ·skip
   refine ownBy (A := s₁.setTop (fr_bz3 m y p1 62 (.val (.int (0 : Int32))) (.val (.int (2 : Int32))) (.val (.int (1 : Int32))) (.val (.int z1)) [(.int (1 : Int32))])) (fun t kt => ?_) ?_
   ·refine XS.icmpYes X0.here hx rfl (pc0 := 48) (pc' := 60) rfl (hb hby d11_48) rfl (flt hc32).2.2.2 (by decide) (by decide) ?_
    show Steps p.tables e below (s₁.setTop (fr_bz3 m y p1 60 (.val (.int (0 : Int32))) (.val (.int (2 : Int32))) (.val (.int (1 : Int32))) (.val (.int z1)) [])) t
    refine XS.iload X0.here hx rfl (hb hby d11_60) rfl ?_
    exact kt
   refine ownRet X0 Bd.notSynchronized (v := some (.int (1 : Int32))) (fun h => by rw [Bd.returns] at h; cases h) ?_ (oLe rfl) (oLe rfl) (fun fs hr => retI X0 hx Bd.returns (hb hby d11_62) hr)
   show (Q_bz3 Z y ky z0 z1 z2 p1 h0 n0) (some (.int (1 : Int32))) s₁.heap _
   rw [e0]
   exact ⟨_, rfl, N0, rfl, Or.inr (Or.inr (Or.inr (Or.inr (Or.inr (Or.inr (⟨hc28, hc32, rfl⟩))))))⟩
abbrev fr_bs3 (m : MethodId) (y : Addr) (p1 : Int32) (pc : Nat)  (st : List Value) : JFrame := mkF m pc #[.val (.ref y), .val (.int (0 : Int32)), .val (.int (3 : Int32)), .val (.int p1)] st
def Q_bs3 (Z : State) (y : Addr) (ky : ClassId) (z0 : Int32) (z1 : Int32) (z2 : Int32) (p1 : Int32) (h0 : Heap) (n0 : Nat) (v : Option Value) (h : Heap) (L : List Loc) : Prop := ∃ r : Int32, v = some (.int r) ∧ Fr n0 L ∧ h = h0 ∧ ((z1 < p1 ∧ z2 < p1 ∧ r = (-4 : Int32)) ∨ (z1 < p1 ∧ ¬ (z2 < p1) ∧ p1 < z2 ∧ r = (-3 : Int32)) ∨ (z1 < p1 ∧ ¬ (z2 < p1) ∧ ¬ (p1 < z2) ∧ r = (2 : Int32)) ∨ (¬ (z1 < p1) ∧ p1 < z1 ∧ z0 < p1 ∧ r = (-2 : Int32)) ∨ (¬ (z1 < p1) ∧ p1 < z1 ∧ ¬ (z0 < p1) ∧ p1 < z0 ∧ r = (-1 : Int32)) ∨ (¬ (z1 < p1) ∧ p1 < z1 ∧ ¬ (z0 < p1) ∧ ¬ (p1 < z0) ∧ r = (0 : Int32)) ∨ (¬ (z1 < p1) ∧ ¬ (p1 < z1) ∧ r = (1 : Int32)))
theorem ef_bs3 (m : MethodId) (x0 : Addr) (x1 : Int32) (x2 : Int32) (x3 : Int32)  : entryFrame m #[(.ref x0), (.int x1), (.int x2), (.int x3)] 4 = mkF m 0 #[.val (.ref x0), .val (.int x1), .val (.int x2), .val (.int x3)] [] := by first | (simp [entryFrame, mkF, argsToLocals, Value.category]; done) | rfl
set_option maxRecDepth 65536 in
set_option maxHeartbeats 40000000 in
theorem c_bs3 (l : Launch) (Z : State) (a0 : Array Value) (hw : ∀ d ∈ tables_1, d.before a0 Z = true) (ws : List Jvm.Cond) (y : Addr) (ky : ClassId) (z0 : Int32) (z1 : Int32) (z2 : Int32) (p1 : Int32) (h0 : Heap) (n0 : Nat) (Z0 : n0 ≤ h0.size) (Ay : Arv Z h0 y ky .int (8 : Int32) [(.int z0), (.int z1), (.int z2), (.int (0 : Int32)), (.int (0 : Int32)), (.int (0 : Int32)), (.int (0 : Int32)), (.int (0 : Int32))] (.int (0 : Int32))) :
  MetFree l (⟨"java/util/Arrays", "binarySearch", "([IIII)I"⟩ : MethodName) (head1 (Jvm.Cond.code (⟨"java/util/Arrays", "binarySearch", "([IIII)I"⟩ : MethodName) jdk_65_method_58_code 4 (some .int) :: ws) ({ frames := 1, cells := 0, slots := 0, locals := 19 } : Room)) (fun a U => a = #[(.ref y), (.int (0 : Int32)), (.int (3 : Int32)), (.int p1)] ∧ Z.Warmed39 U.vm ∧ U.heap = h0) (fun _ _ _ _ _ => True) (fun _ U o U' => ∃ v L, o = .returned v ∧ (Q_bs3 Z y ky z0 z1 z2 p1 h0 n0) v U'.heap L ∧ FrameEnd U o U' L ({ frames := 1, cells := 0, slots := 0, locals := 19 } : Room).cells ({ frames := 1, cells := 0, slots := 0, locals := 19 } : Room).slots) := by
 refine MetFree.of_bodySF (plainFor_of_name pn_1) hisR ?_
 intro p e s m args below meth c s₁ Bd hml0 hP hK
 obtain ⟨rfl, hZ, hHp⟩ := hP
 have hx := Bd.exec
 have hby := Bd.bytes
 have hml : c.maxLocals = 4 := hml0
 have hown : s.vm.findClass "java/util/Arrays" = some m.cls := findClass_of_methodNamed Bd.named
 have hnm := (name_of_methodNamed Bd.named Bd.method).1
 have X0 : Stand p l e ({ frames := 1, cells := 0, slots := 0, locals := 19 } : Room) s m #[(.ref y), (.int (0 : Int32)), (.int (3 : Int32)), (.int p1)] below meth c s₁ [] 0 0 := Stand.of_body Bd
 have e0 : s₁.heap = h0 := by rw [← hHp, Bd.state]; rfl
 have N0 := Fr.nil n0
 refine ownOut (P := (Q_bs3 Z y ky z0 z1 z2 p1 h0 n0)) ?_
 refine ownBy (A := s₁.setTop (mkF m 0 #[.val (.ref y), .val (.int (0 : Int32)), .val (.int (3 : Int32)), .val (.int p1)] [])) (fun t k => castTop (ef_bs3 m y (0 : Int32) (3 : Int32) p1) k) ?_
 refine ownBy (A := s₁.setTop (fr_bs3 m y p1 1  [(.ref y)])) (fun t kt => ?_) ?_
 ·refine XS.aloadN X0.here hx rfl (hb hby d9_0) rfl rfl ?_
  exact kt
 obtain ⟨cl36, Ar36, -, S36, N36, -, -⟩ := id Ay
 have st36 := X0.arraylength hx (by rw [e0]; exact Ar36.1) (State.isArrayOf_alike hZ.alike Ar36.2.1) (g := (fr_bs3 m y p1 1  [(.ref y)])) rfl rfl (hb hby d9_1)
 rw [len_of S36 N36] at st36
 refine ownBy st36 ?_
 show ownG p.tables e below _ (s₁.setTop (fr_bs3 m y p1 2  [(.int (8 : Int32))]))
 refine ownBy (A := s₁.setTop (fr_bs3 m y p1 4  [(.int (3 : Int32)), (.int (0 : Int32)), (.int (8 : Int32))])) (fun t kt => ?_) ?_
 ·refine XS.iloadN X0.here hx rfl (hb hby d9_2) rfl ?_
  show Steps p.tables e below (s₁.setTop (fr_bs3 m y p1 3  [(.int (0 : Int32)), (.int (8 : Int32))])) t
  refine XS.iloadN X0.here hx rfl (hb hby d9_3) rfl ?_
  exact kt
 obtain ⟨vv37, _, ⟨T37, L37, k37, n37⟩, -, X37, ⟨Lc37, hQ37, l37, y37, z37⟩, st37⟩ := Jvm.LawKit.callS X0 hx (y := (⟨"java/util/Arrays", "rangeCheck", "(III)V"⟩ : MethodName)) hown (mvT hZ (Wd83 hw)) (mvT hZ (Wd84 hw)) (mvT hZ (Wd81 hw)) (mvT hZ (Wd85 hw)) (by decide) (backOf (W := 0) (c_rc3 l Z a0 hw []  h0 n0 Z0 ) hZ (Wd85 hw) (Wd81 hw) (by decide) (by decide)) (g := (fr_bs3 m y p1 4  [(.int (3 : Int32)), (.int (0 : Int32)), (.int (8 : Int32))])) rfl (by rw [hml]; rfl) (argsL := [(.int (8 : Int32)), (.int (0 : Int32)), (.int (3 : Int32))]) (rest := []) (lenOf pd_7 rfl) rfl (by show 2 * 0 + _ ≤ _; exact Nat.le_of_eq rfl) (hb hby d9_4) (fun _ _ => ⟨rfl, e0, (by decide : 0 + 0 ≤ _), (by decide : 0 + 0 ≤ _)⟩)
 dsimp only [Pt.U, Pt.locs, Pt.cells, Pt.slots] at X37 l37 y37 z37 st37 hQ37
 subst l37 y37 z37
 obtain ⟨rfl, Nq37, Eq37⟩ := hQ37
 have N38 := Fr.app N0 Nq37
 obtain ⟨Lh39, Xh39, Nh39⟩ := oHd 0 0 X37 N38 rfl rfl
 refine ownBy st37 ?_
 clear st37
 show ownG p.tables e below _ (T37.setTop (fr_bs3 m y p1 7  []))
 refine ownBy (A := T37.setTop (fr_bs3 m y p1 11  [(.int p1), (.int (3 : Int32)), (.int (0 : Int32)), (.ref y)])) (fun t kt => ?_) ?_
 ·refine XS.aloadN Xh39.here hx rfl (hb hby d9_7) rfl rfl ?_
  show Steps p.tables e below (T37.setTop (fr_bs3 m y p1 8  [(.ref y)])) t
  refine XS.iloadN Xh39.here hx rfl (hb hby d9_8) rfl ?_
  show Steps p.tables e below (T37.setTop (fr_bs3 m y p1 9  [(.int (0 : Int32)), (.ref y)])) t
  refine XS.iloadN Xh39.here hx rfl (hb hby d9_9) rfl ?_
  show Steps p.tables e below (T37.setTop (fr_bs3 m y p1 10  [(.int (3 : Int32)), (.int (0 : Int32)), (.ref y)])) t
  refine XS.iloadN Xh39.here hx rfl (hb hby d9_10) rfl ?_
  exact kt
 obtain ⟨vv40, _, ⟨T40, L40, k40, n40⟩, -, X40, ⟨Lc40, hQ40, l40, y40, z40⟩, st40⟩ := Jvm.LawKit.callS Xh39 hx (y := (⟨"java/util/Arrays", "binarySearch0", "([IIII)I"⟩ : MethodName)) hown (mvT hZ (Wd86 hw)) (mvT hZ (Wd87 hw)) (mvT hZ (Wd81 hw)) (mvT hZ (Wd88 hw)) (by decide) (backOf (W := 0) (c_bz3 l Z a0 hw [] y ky z0 z1 z2 p1 h0 n0 Z0 Ay) hZ (Wd88 hw) (Wd81 hw) (by decide) (by decide)) (g := (fr_bs3 m y p1 11  [(.int p1), (.int (3 : Int32)), (.int (0 : Int32)), (.ref y)])) rfl (by rw [hml]; rfl) (argsL := [(.ref y), (.int (0 : Int32)), (.int (3 : Int32)), (.int p1)]) (rest := []) (lenOf pd_11 rfl) rfl (by show 2 * 0 + _ ≤ _; exact Nat.le_of_eq rfl) (hb hby d9_11) (fun _ _ => ⟨rfl, Eq37, (by decide : 0 + 0 ≤ _), (by decide : 0 + 0 ≤ _)⟩)
 dsimp only [Pt.U, Pt.locs, Pt.cells, Pt.slots] at X40 l40 y40 z40 st40 hQ40
 subst l40 y40 z40
 obtain ⟨r40, rfl, Nq40, Eq40, hB40⟩ := hQ40
 have N41 := Fr.app Nh39 Nq40
 obtain ⟨Lh42, Xh42, Nh42⟩ := oHd 0 0 X40 N41 rfl rfl
 refine ownBy st40 ?_
 clear st40
 show ownG p.tables e below _ (T40.setTop (fr_bs3 m y p1 14  [(.int r40)]))
 refine ownRet Xh42 Bd.notSynchronized (v := some (.int r40)) (fun h => by rw [Bd.returns] at h; cases h) ?_ (oLe rfl) (oLe rfl) (fun fs hr => retI Xh42 hx Bd.returns (hb hby d9_14) hr)
 show (Q_bs3 Z y ky z0 z1 z2 p1 h0 n0) (some (.int r40)) T40.heap _
 rw [Eq40]
 exact ⟨_, rfl, Nh42, rfl, hB40⟩
def Q_abc (Z : State) (a1 : Addr) (h0 : Heap) (n0 : Nat) (v : Option Value) (h : Heap) (L : List Loc) : Prop := v = none ∧ Fr n0 L ∧ h = h0
theorem ef_abc (m : MethodId) (x0 : Addr)  : entryFrame m #[(.ref x0)] 1 = mkF m 0 #[.val (.ref x0)] [] := by first | (simp [entryFrame, mkF, argsToLocals, Value.category]; done) | rfl
set_option maxRecDepth 65536 in
set_option maxHeartbeats 40000000 in
theorem c_abc (l : Launch) (Z : State) (a0 : Array Value) (hw : ∀ d ∈ tables_1, d.before a0 Z = true) (ws : List Jvm.Cond) (a1 : Addr) (h0 : Heap) (n0 : Nat) (Z0 : n0 ≤ h0.size) :
  MetFree l (⟨"java/util/AbstractCollection", "<init>", "()V"⟩ : MethodName) (head1 (Jvm.Cond.code (⟨"java/util/AbstractCollection", "<init>", "()V"⟩ : MethodName) jdk_22_method_1_code 1 none :: ws) ({ frames := 1, cells := 0, slots := 0, locals := 12 } : Room)) (fun a U => a = #[(.ref a1)] ∧ Z.Warmed39 U.vm ∧ U.heap = h0) (fun _ _ _ _ _ => True) (fun _ U o U' => ∃ v L, o = .returned v ∧ (Q_abc Z a1 h0 n0) v U'.heap L ∧ FrameEnd U o U' L ({ frames := 1, cells := 0, slots := 0, locals := 12 } : Room).cells ({ frames := 1, cells := 0, slots := 0, locals := 12 } : Room).slots) := by
 refine MetFree.of_bodySF (plainFor_of_name pn_43) hisR ?_
 intro p e s m args below meth c s₁ Bd hml0 hP hK
 obtain ⟨rfl, hZ, hHp⟩ := hP
 have hx := Bd.exec
 have hby := Bd.bytes
 have hml : c.maxLocals = 1 := hml0
 have hown : s.vm.findClass "java/util/AbstractCollection" = some m.cls := findClass_of_methodNamed Bd.named
 have hnm := (name_of_methodNamed Bd.named Bd.method).1
 have X0 : Stand p l e ({ frames := 1, cells := 0, slots := 0, locals := 12 } : Room) s m #[(.ref a1)] below meth c s₁ [] 0 0 := Stand.of_body Bd
 have e0 : s₁.heap = h0 := by rw [← hHp, Bd.state]; rfl
 have N0 := Fr.nil n0
 refine ownOut (P := (Q_abc Z a1 h0 n0)) ?_
 refine ownBy (A := s₁.setTop (mkF m 0 #[.val (.ref a1)] [])) (fun t k => castTop (ef_abc m a1) k) ?_
 refine ownBy (A := s₁.setTop (mkF m 1 #[.val (.ref a1)] [(.ref a1)])) (fun t kt => ?_) ?_
 ·refine XS.aloadN X0.here hx rfl (hb hby d3_0) rfl rfl ?_
  exact kt
 obtain ⟨T44, X44, e44, st44⟩ := initO X0 hx hZ hown (Wd23 hw) (Wd24 hw) (Wd25 hw) e0 (g := (mkF m 1 #[.val (.ref a1)] [(.ref a1)])) rfl (by rw [hml]; rfl) rfl (hb hby d3_1) (by decide) (W := 0) (by show 2 * 0 + _ ≤ _; exact Nat.le_of_eq rfl) (by decide)
 refine ownBy st44 ?_
 clear st44
 show ownG p.tables e below _ (T44.setTop (mkF m 4 #[.val (.ref a1)] []))
 refine ownRet X44 Bd.notSynchronized (v := none) (fun _ => rfl) ?_ (oLe rfl) (oLe rfl) (fun fs hr => X44.returnOut hx Bd.returns (hb hby d3_4) hr)
 show (Q_abc Z a1 h0 n0) (none) T44.heap _
 rw [e44]
 exact ⟨rfl, N0, rfl⟩
abbrev fr_abl (m : MethodId) (a1 : Addr) (pc : Nat)  (st : List Value) : JFrame := mkF m pc #[.val (.ref a1)] st
def Q_abl (Z : State) (a1 : Addr) (d0 : Value) (d1 : Value) (h0 : Heap) (n0 : Nat) (v : Option Value) (h : Heap) (L : List Loc) : Prop := v = none ∧ Fr n0 L ∧ Keep h0 h [a1] ∧ Exa Z h a1 "java/util/ArrayList" ∧ Fld Z h a1 "java/util/ArrayList" "size" "I" (.int (0 : Int32)) ∧ ∃ d2 : Value, Fld Z h a1 "java/util/ArrayList" "elementData" "[Ljava/lang/Object;" d2
theorem ef_abl (m : MethodId) (x0 : Addr)  : entryFrame m #[(.ref x0)] 1 = mkF m 0 #[.val (.ref x0)] [] := by first | (simp [entryFrame, mkF, argsToLocals, Value.category]; done) | rfl
set_option maxRecDepth 65536 in
set_option maxHeartbeats 40000000 in
theorem c_abl (l : Launch) (Z : State) (a0 : Array Value) (hw : ∀ d ∈ tables_1, d.before a0 Z = true) (ws : List Jvm.Cond) (a1 : Addr) (d0 : Value) (d1 : Value) (h0 : Heap) (n0 : Nat) (Z0 : n0 ≤ h0.size) (E1 : Exa Z h0 a1 "java/util/ArrayList") (F1 : Fld Z h0 a1 "java/util/AbstractList" "modCount" "I" d0) (F2 : Fld Z h0 a1 "java/util/ArrayList" "elementData" "[Ljava/lang/Object;" d1) (F3 : Fld Z h0 a1 "java/util/ArrayList" "size" "I" (.int (0 : Int32))) (g1 : n0 ≤ a1) :
  MetFree l (⟨"java/util/AbstractList", "<init>", "()V"⟩ : MethodName) (head1 (Jvm.Cond.code (⟨"java/util/AbstractList", "<init>", "()V"⟩ : MethodName) jdk_39_method_1_code 1 none :: ws) ({ frames := 2, cells := 0, slots := 0, locals := 24 } : Room)) (fun a U => a = #[(.ref a1)] ∧ Z.Warmed39 U.vm ∧ U.heap = h0) (fun _ _ _ _ _ => True) (fun _ U o U' => ∃ v L, o = .returned v ∧ (Q_abl Z a1 d0 d1 h0 n0) v U'.heap L ∧ FrameEnd U o U' L ({ frames := 2, cells := 0, slots := 0, locals := 24 } : Room).cells ({ frames := 2, cells := 0, slots := 0, locals := 24 } : Room).slots) := by
 refine MetFree.of_bodySF (plainFor_of_name pn_45) hisR ?_
 intro p e s m args below meth c s₁ Bd hml0 hP hK
 obtain ⟨rfl, hZ, hHp⟩ := hP
 have hx := Bd.exec
 have hby := Bd.bytes
 have hml : c.maxLocals = 1 := hml0
 have hown : s.vm.findClass "java/util/AbstractList" = some m.cls := findClass_of_methodNamed Bd.named
 have hnm := (name_of_methodNamed Bd.named Bd.method).1
 have X0 : Stand p l e ({ frames := 2, cells := 0, slots := 0, locals := 24 } : Room) s m #[(.ref a1)] below meth c s₁ [] 0 0 := Stand.of_body Bd
 have e0 : s₁.heap = h0 := by rw [← hHp, Bd.state]; rfl
 have N0 := Fr.nil n0
 refine ownOut (P := (Q_abl Z a1 d0 d1 h0 n0)) ?_
 refine ownBy (A := s₁.setTop (mkF m 0 #[.val (.ref a1)] [])) (fun t k => castTop (ef_abl m a1) k) ?_
 refine ownBy (A := s₁.setTop (fr_abl m a1 1  [(.ref a1)])) (fun t kt => ?_) ?_
 ·refine XS.aloadN X0.here hx rfl (hb hby d2_0) rfl rfl ?_
  exact kt
 obtain ⟨vv46, _, ⟨T46, L46, k46, n46⟩, -, X46, ⟨Lc46, hQ46, l46, y46, z46⟩, st46⟩ := X0.specialBack hx (y := (⟨"java/util/AbstractCollection", "<init>", "()V"⟩ : MethodName)) rfl hown (mvT hZ (Wd17 hw)) (mvT hZ (Wd18 hw)) (mvT hZ (Wd22 hw)) (by decide) (backOf (W := 0) (c_abc l Z a0 hw [] a1 h0 n0 Z0 ) hZ (Wd22 hw) (Wd21 hw) (by decide) (by decide)) (g := (fr_abl m a1 1  [(.ref a1)])) rfl (by rw [hml]; rfl) (Steps.refl _) (a := a1) (argsL := []) (rest := []) (lenOf pd_47 rfl) rfl (by show 2 * 0 + _ ≤ _; exact Nat.le_of_eq rfl) (hb hby d2_1) (fun _ _ => ⟨rfl, e0, (by decide : 0 + 0 ≤ _), (by decide : 0 + 0 ≤ _)⟩)
 dsimp only [Pt.U, Pt.locs, Pt.cells, Pt.slots] at X46 l46 y46 z46 st46 hQ46
 subst l46 y46 z46
 obtain ⟨rfl, Nq46, Eq46⟩ := hQ46
 have N48 := Fr.app N0 Nq46
 obtain ⟨Lh49, Xh49, Nh49⟩ := oHd 0 0 X46 N48 rfl rfl
 refine ownSt st46 ?_
 clear st46
 show ownG p.tables e below _ (T46.setTop (fr_abl m a1 4  []))
 refine ownBy (A := T46.setTop (fr_abl m a1 6  [(.int (0 : Int32)), (.ref a1)])) (fun t kt => ?_) ?_
 ·refine XS.aloadN Xh49.here hx rfl (hb hby d2_4) rfl rfl ?_
  show Steps p.tables e below (T46.setTop (fr_abl m a1 5  [(.ref a1)])) t
  refine XS.iconst Xh49.here hx rfl (hb hby d2_5) ?_
  exact kt
 obtain ⟨T50, h50, X50, e50, W50, st50⟩ := putF Xh49 hx hZ hown (host := "") (Or.inl (Wd26 hw)) Via.refl Eq46 F1 E1 (Or.inl (Wd27 hw)) (Wd6 hw) (ty := .int) (by decide) rfl rfl (g := (fr_abl m a1 6  [(.int (0 : Int32)), (.ref a1)])) rfl rfl (hb hby d2_6)
 have F51 := F1.same W50
 have N52 := Fr.snoc X50 Nh49 g1
 obtain ⟨Lh53, Xh53, Nh53⟩ := oHd 0 0 X50 N52 rfl rfl
 refine ownBy st50 ?_
 clear st50
 show ownG p.tables e below _ (T50.setTop (fr_abl m a1 9  []))
 have f54 := ((Keep.refl h0 [a1]).wr W50 (Or.inl (List.mem_of_getElem? (i := 0) rfl)))
 have f55 := (E1.wr W50)
 have f56 := (F3.other W50 (Or.inr (slot_ne (Or.inl (Wd53 hw)) (Or.inl (Wd27 hw)) (by decide) (t := .int) (t' := .int) (by decide) (by decide))))
 have f57 := (F2.other W50 (Or.inr (slot_ne (Or.inl (Wd30 hw)) (Or.inl (Wd27 hw)) (by decide) (t := (.array (.object "java/lang/Object"))) (t' := .int) (by decide) (by decide))))
 refine ownRet Xh53 Bd.notSynchronized (v := none) (fun _ => rfl) ?_ (oLe rfl) (oLe rfl) (fun fs hr => Xh53.returnOut hx Bd.returns (hb hby d2_9) hr)
 show (Q_abl Z a1 d0 d1 h0 n0) (none) T50.heap _
 rw [e50]
 exact ⟨rfl, Nh53, f54, f55, f56, _, f57⟩
abbrev fr_alst (m : MethodId) (a1 : Addr) (pc : Nat)  (st : List Value) : JFrame := mkF m pc #[.val (.ref a1)] st
def Q_alst (Z : State) (a1 : Addr) (d0 : Value) (d1 : Value) (DV : Value) (h0 : Heap) (n0 : Nat) (v : Option Value) (h : Heap) (L : List Loc) : Prop := v = none ∧ Fr n0 L ∧ Keep h0 h [a1] ∧ Exa Z h a1 "java/util/ArrayList" ∧ Fld Z h a1 "java/util/ArrayList" "size" "I" (.int (0 : Int32))
theorem ef_alst (m : MethodId) (x0 : Addr)  : entryFrame m #[(.ref x0)] 1 = mkF m 0 #[.val (.ref x0)] [] := by first | (simp [entryFrame, mkF, argsToLocals, Value.category]; done) | rfl
set_option maxRecDepth 65536 in
set_option maxHeartbeats 40000000 in
theorem c_alst (l : Launch) (Z : State) (a0 : Array Value) (hw : ∀ d ∈ tables_1, d.before a0 Z = true) (ws : List Jvm.Cond) (a1 : Addr) (d0 : Value) (d1 : Value) (DV : Value) (h0 : Heap) (n0 : Nat) (Z0 : n0 ≤ h0.size) (E1 : Exa Z h0 a1 "java/util/ArrayList") (F1 : Fld Z h0 a1 "java/util/AbstractList" "modCount" "I" d0) (F2 : Fld Z h0 a1 "java/util/ArrayList" "elementData" "[Ljava/lang/Object;" d1) (F3 : Fld Z h0 a1 "java/util/ArrayList" "size" "I" (.int (0 : Int32))) (g1 : n0 ≤ a1) (SD : Sta Z Z.heap "java/util/ArrayList" "DEFAULTCAPACITY_EMPTY_ELEMENTDATA" "[Ljava/lang/Object;" DV) (rDV : DV.isRef = true) (X00 : Old Z n0 h0) :
  MetFree l (⟨"java/util/ArrayList", "<init>", "()V"⟩ : MethodName) (head1 (Jvm.Cond.code (⟨"java/util/ArrayList", "<init>", "()V"⟩ : MethodName) jdk_38_method_2_code 1 none :: ws) ({ frames := 3, cells := 0, slots := 0, locals := 36 } : Room)) (fun a U => a = #[(.ref a1)] ∧ Z.Warmed39 U.vm ∧ U.heap = h0) (fun _ _ _ _ _ => True) (fun _ U o U' => ∃ v L, o = .returned v ∧ (Q_alst Z a1 d0 d1 DV h0 n0) v U'.heap L ∧ FrameEnd U o U' L ({ frames := 3, cells := 0, slots := 0, locals := 36 } : Room).cells ({ frames := 3, cells := 0, slots := 0, locals := 36 } : Room).slots) := by
 refine MetFree.of_bodySF (plainFor_of_name pn_58) hisR ?_
 intro p e s m args below meth c s₁ Bd hml0 hP hK
 obtain ⟨rfl, hZ, hHp⟩ := hP
 have hx := Bd.exec
 have hby := Bd.bytes
 have hml : c.maxLocals = 1 := hml0
 have hown : s.vm.findClass "java/util/ArrayList" = some m.cls := findClass_of_methodNamed Bd.named
 have hnm := (name_of_methodNamed Bd.named Bd.method).1
 have X0 : Stand p l e ({ frames := 3, cells := 0, slots := 0, locals := 36 } : Room) s m #[(.ref a1)] below meth c s₁ [] 0 0 := Stand.of_body Bd
 have e0 : s₁.heap = h0 := by rw [← hHp, Bd.state]; rfl
 have N0 := Fr.nil n0
 refine ownOut (P := (Q_alst Z a1 d0 d1 DV h0 n0)) ?_
 refine ownBy (A := s₁.setTop (mkF m 0 #[.val (.ref a1)] [])) (fun t k => castTop (ef_alst m a1) k) ?_
 refine ownBy (A := s₁.setTop (fr_alst m a1 1  [(.ref a1)])) (fun t kt => ?_) ?_
 ·refine XS.aloadN X0.here hx rfl (hb hby d1_0) rfl rfl ?_
  exact kt
 obtain ⟨vv59, _, ⟨T59, L59, k59, n59⟩, -, X59, ⟨Lc59, hQ59, l59, y59, z59⟩, st59⟩ := X0.specialBack hx (y := (⟨"java/util/AbstractList", "<init>", "()V"⟩ : MethodName)) rfl hown (mvT hZ (Wd11 hw)) (mvT hZ (Wd12 hw)) (mvT hZ (Wd16 hw)) (by decide) (backOf (W := 0) (c_abl l Z a0 hw [] a1 _ _ h0 n0 Z0 E1 F1 F2 F3 g1) hZ (Wd16 hw) (Wd15 hw) (by decide) (by decide)) (g := (fr_alst m a1 1  [(.ref a1)])) rfl (by rw [hml]; rfl) (Steps.refl _) (a := a1) (argsL := []) (rest := []) (lenOf pd_47 rfl) rfl (by show 2 * 0 + _ ≤ _; exact Nat.le_of_eq rfl) (hb hby d1_1) (fun _ _ => ⟨rfl, e0, (by decide : 0 + 0 ≤ _), (by decide : 0 + 0 ≤ _)⟩)
 dsimp only [Pt.U, Pt.locs, Pt.cells, Pt.slots] at X59 l59 y59 z59 st59 hQ59
 subst l59 y59 z59
 obtain ⟨rfl, Nq59, Kq59, Eq59, Fq59, d59, Fd59⟩ := hQ59
 have N60 := Fr.app N0 Nq59
 obtain ⟨Lh61, Xh61, Nh61⟩ := oHd 0 0 X59 N60 rfl rfl
 refine ownSt st59 ?_
 clear st59
 show ownG p.tables e below _ (T59.setTop (fr_alst m a1 4  []))
 refine ownBy (A := T59.setTop (fr_alst m a1 5  [(.ref a1)])) (fun t kt => ?_) ?_
 ·refine XS.aloadN Xh61.here hx rfl (hb hby d1_4) rfl rfl ?_
  exact kt
 have f63 := (X00.keep Kq59 (allS g1 all0))
 obtain ⟨T62, X62, e62, st62⟩ := getS2 Xh61 hx hZ hown (host := "") (Or.inl (Wd28 hw)) Via.refl rfl (SD.ext f63.2) (g := (fr_alst m a1 5  [(.ref a1)])) rfl (hb hby d1_5)
 refine ownBy st62 ?_
 clear st62
 show ownG p.tables e below _ (T62.setTop (fr_alst m a1 8  [DV, (.ref a1)]))
 have f65 := (E1.keep Kq59)
 obtain ⟨T64, h64, X64, e64, W64, st64⟩ := putF X62 hx hZ hown (host := "") (Or.inl (Wd29 hw)) Via.refl e62 Fd59 f65 (Or.inl (Wd30 hw)) (Wd6 hw) (ty := (.array (.object "java/lang/Object"))) (by decide) (own_narrow rfl rDV) (own_fits rfl rDV) (g := (fr_alst m a1 8  [DV, (.ref a1)])) rfl rfl (hb hby d1_8)
 have F66 := Fd59.same W64
 have N67 := Fr.snoc X64 Nh61 g1
 obtain ⟨Lh68, Xh68, Nh68⟩ := oHd 0 0 X64 N67 rfl rfl
 refine ownBy st64 ?_
 clear st64
 show ownG p.tables e below _ (T64.setTop (fr_alst m a1 11  []))
 have f69 := (((Keep.refl h0 [a1]).trans Kq59 (allS (Or.inl (List.mem_of_getElem? (i := 0) rfl)) all0)).wr W64 (Or.inl (List.mem_of_getElem? (i := 0) rfl)))
 have f70 := (f65.wr W64)
 have f71 := (Fq59.other W64 (Or.inr (slot_ne (Or.inl (Wd53 hw)) (Or.inl (Wd30 hw)) (by decide) (t := .int) (t' := (.array (.object "java/lang/Object"))) (by decide) (by decide))))
 refine ownRet Xh68 Bd.notSynchronized (v := none) (fun _ => rfl) ?_ (oLe rfl) (oLe rfl) (fun fs hr => Xh68.returnOut hx Bd.returns (hb hby d1_11) hr)
 show (Q_alst Z a1 d0 d1 DV h0 n0) (none) T64.heap _
 rw [e64]
 exact ⟨rfl, Nh68, f69, f70, f71⟩
def Q_alsz (Z : State) (a1 : Addr) (h0 : Heap) (n0 : Nat) (v : Option Value) (h : Heap) (L : List Loc) : Prop := v = some (.int (0 : Int32)) ∧ Fr n0 L ∧ h = h0
theorem ef_alsz (m : MethodId) (x0 : Addr)  : entryFrame m #[(.ref x0)] 1 = mkF m 0 #[.val (.ref x0)] [] := by first | (simp [entryFrame, mkF, argsToLocals, Value.category]; done) | rfl
set_option maxRecDepth 65536 in
set_option maxHeartbeats 40000000 in
theorem c_alsz (l : Launch) (Z : State) (a0 : Array Value) (hw : ∀ d ∈ tables_1, d.before a0 Z = true) (ws : List Jvm.Cond) (a1 : Addr) (h0 : Heap) (n0 : Nat) (Z0 : n0 ≤ h0.size) (F1 : Fld Z h0 a1 "java/util/ArrayList" "size" "I" (.int (0 : Int32))) :
  MetFree l (⟨"java/util/ArrayList", "size", "()I"⟩ : MethodName) (head1 (Jvm.Cond.code (⟨"java/util/ArrayList", "size", "()I"⟩ : MethodName) jdk_38_method_8_code 1 (some .int) :: ws) ({ frames := 0, cells := 0, slots := 0, locals := 0 } : Room)) (fun a U => a = #[(.ref a1)] ∧ Z.Warmed39 U.vm ∧ U.heap = h0) (fun _ _ _ _ _ => True) (fun _ U o U' => ∃ v L, o = .returned v ∧ (Q_alsz Z a1 h0 n0) v U'.heap L ∧ FrameEnd U o U' L ({ frames := 0, cells := 0, slots := 0, locals := 0 } : Room).cells ({ frames := 0, cells := 0, slots := 0, locals := 0 } : Room).slots) := by
 refine MetFree.of_bodySF (plainFor_of_name pn_58) hisR ?_
 intro p e s m args below meth c s₁ Bd hml0 hP hK
 obtain ⟨rfl, hZ, hHp⟩ := hP
 have hx := Bd.exec
 have hby := Bd.bytes
 have hml : c.maxLocals = 1 := hml0
 have hown : s.vm.findClass "java/util/ArrayList" = some m.cls := findClass_of_methodNamed Bd.named
 have hnm := (name_of_methodNamed Bd.named Bd.method).1
 have X0 : Stand p l e ({ frames := 0, cells := 0, slots := 0, locals := 0 } : Room) s m #[(.ref a1)] below meth c s₁ [] 0 0 := Stand.of_body Bd
 have e0 : s₁.heap = h0 := by rw [← hHp, Bd.state]; rfl
 have N0 := Fr.nil n0
 refine ownOut (P := (Q_alsz Z a1 h0 n0)) ?_
 refine ownBy (A := s₁.setTop (mkF m 0 #[.val (.ref a1)] [])) (fun t k => castTop (ef_alsz m a1) k) ?_
 refine ownBy (A := s₁.setTop (mkF m 1 #[.val (.ref a1)] [(.ref a1)])) (fun t kt => ?_) ?_
 ·refine XS.aloadN X0.here hx rfl (hb hby d6_0) rfl rfl ?_
  exact kt
 refine own_getF X0 hx hZ hown (host := "") (Or.inl (Wd52 hw)) Via.refl e0 F1 (hb hby d6_1) (fun T72 X72 e72 => ?_)
 refine ownRet X72 Bd.notSynchronized (v := some (.int (0 : Int32))) (fun h => by rw [Bd.returns] at h; cases h) ?_ (oLe rfl) (oLe rfl) (fun fs hr => retI X72 hx Bd.returns (hb hby d6_4) hr)
 show (Q_alsz Z a1 h0 n0) (some (.int (0 : Int32))) T72.heap _
 rw [e72]
 exact ⟨rfl, N0, rfl⟩
abbrev fr_bctor (m : MethodId) (b : Addr) (c1 : Addr) (pc : Nat)  (st : List Value) : JFrame := mkF m pc #[.val (.ref b), .val (.ref c1)] st
def Q_bctor (Z : State) (b : Addr) (c1 : Addr) (h0 : Heap) (n0 : Nat) (v : Option Value) (h : Heap) (L : List Loc) : Prop := v = none ∧ Fr n0 L ∧ h0.size ≤ h.size ∧ ∃ (y hh nn : Addr) (ky kh kn : ClassId), n0 ≤ y ∧ n0 ≤ hh ∧ Exa Z h b "com/example/vestline/vestline/HoursByPlanYear$Builder" ∧ Fld Z h b "com/example/vestline/vestline/HoursByPlanYear$Builder" "years" "[I" (.ref y) ∧ Fld Z h b "com/example/vestline/vestline/HoursByPlanYear$Builder" "hours" "[Ljava/math/BigDecimal;" (.ref hh) ∧ Fld Z h b "com/example/vestline/vestline/HoursByPlanYear$Builder" "numbers" "[[J" (.ref nn) ∧ Fld Z h b "com/example/vestline/vestline/HoursByPlanYear$Builder" "size" "I" (.int (0 : Int32)) ∧ Fld Z h b "com/example/vestline/vestline/HoursByPlanYear$Builder" "firstLine" "J" (.long (0 : Int64)) ∧ Fld Z h b "com/example/vestline/vestline/HoursByPlanYear$Builder" "lines" "[J" .null ∧ Arv Z h y ky .int (8 : Int32) [(.int (0 : Int32)), (.int (0 : Int32)), (.int (0 : Int32)), (.int (0 : Int32)), (.int (0 : Int32)), (.int (0 : Int32)), (.int (0 : Int32)), (.int (0 : Int32))] (.int (0 : Int32)) ∧ Arv Z h hh kh (.object "java/math/BigDecimal") (8 : Int32) [.null, .null, .null, .null, .null, .null, .null, .null] .null ∧ Arv Z h nn kn (.array .long) (0 : Int32) [] .null
theorem ef_bctor (m : MethodId) (x0 : Addr) (x1 : Addr)  : entryFrame m #[(.ref x0), (.ref x1)] 2 = mkF m 0 #[.val (.ref x0), .val (.ref x1)] [] := by first | (simp [entryFrame, mkF, argsToLocals, Value.category]; done) | rfl
set_option maxRecDepth 65536 in
set_option maxHeartbeats 40000000 in
theorem c_bctor (l : Launch) (Z : State) (a0 : Array Value) (hw : ∀ d ∈ tables_1, d.before a0 Z = true) (ws : List Jvm.Cond) (b : Addr) (c1 : Addr) (h0 : Heap) (n0 : Nat) (Z0 : n0 ≤ h0.size) (E1 : Exa Z h0 b "com/example/vestline/vestline/HoursByPlanYear$Builder") (F_years : Fld Z h0 b "com/example/vestline/vestline/HoursByPlanYear$Builder" "years" "[I" .null) (F_hours : Fld Z h0 b "com/example/vestline/vestline/HoursByPlanYear$Builder" "hours" "[Ljava/math/BigDecimal;" .null) (F_columns : Fld Z h0 b "com/example/vestline/vestline/HoursByPlanYear$Builder" "columns" "Ljava/util/List;" .null) (F_numbers : Fld Z h0 b "com/example/vestline/vestline/HoursByPlanYear$Builder" "numbers" "[[J" .null) (F_size : Fld Z h0 b "com/example/vestline/vestline/HoursByPlanYear$Builder" "size" "I" (.int (0 : Int32))) (F_firstLine : Fld Z h0 b "com/example/vestline/vestline/HoursByPlanYear$Builder" "firstLine" "J" (.long (0 : Int64))) (F_lines : Fld Z h0 b "com/example/vestline/vestline/HoursByPlanYear$Builder" "lines" "[J" .null) (E2 : Exa Z h0 c1 "java/util/ArrayList") (G2 : Fld Z h0 c1 "java/util/ArrayList" "size" "I" (.int (0 : Int32))) (g1 : n0 ≤ b) (ne1 : b ≠ c1) :
  MetFree l (⟨"com/example/vestline/vestline/HoursByPlanYear$Builder", "<init>", "(Ljava/util/List;)V"⟩ : MethodName) (head1 (Jvm.Cond.code (⟨"com/example/vestline/vestline/HoursByPlanYear$Builder", "<init>", "(Ljava/util/List;)V"⟩ : MethodName) prog_14_method_1_code 2 none :: ws) ({ frames := 1, cells := 3, slots := 16, locals := 14 } : Room)) (fun a U => a = #[(.ref b), (.ref c1)] ∧ Z.Warmed39 U.vm ∧ U.heap = h0) (fun _ _ _ _ _ => True) (fun _ U o U' => ∃ v L, o = .returned v ∧ (Q_bctor Z b c1 h0 n0) v U'.heap L ∧ FrameEnd U o U' L ({ frames := 1, cells := 3, slots := 16, locals := 14 } : Room).cells ({ frames := 1, cells := 3, slots := 16, locals := 14 } : Room).slots) := by
 refine MetFree.of_bodySF (plainFor_of_name pn_73) hisR ?_
 intro p e s m args below meth c s₁ Bd hml0 hP hK
 obtain ⟨rfl, hZ, hHp⟩ := hP
 have hx := Bd.exec
 have hby := Bd.bytes
 have hml : c.maxLocals = 2 := hml0
 have hown : s.vm.findClass "com/example/vestline/vestline/HoursByPlanYear$Builder" = some m.cls := findClass_of_methodNamed Bd.named
 have hnm := (name_of_methodNamed Bd.named Bd.method).1
 have X0 : Stand p l e ({ frames := 1, cells := 3, slots := 16, locals := 14 } : Room) s m #[(.ref b), (.ref c1)] below meth c s₁ [] 0 0 := Stand.of_body Bd
 have e0 : s₁.heap = h0 := by rw [← hHp, Bd.state]; rfl
 have N0 := Fr.nil n0
 refine ownOut (P := (Q_bctor Z b c1 h0 n0)) ?_
 refine ownBy (A := s₁.setTop (mkF m 0 #[.val (.ref b), .val (.ref c1)] [])) (fun t k => castTop (ef_bctor m b c1) k) ?_
 refine ownBy (A := s₁.setTop (fr_bctor m b c1 1  [(.ref b)])) (fun t kt => ?_) ?_
 ·refine XS.aloadN X0.here hx rfl (hb hby d5_0) rfl rfl ?_
  exact kt
 obtain ⟨T74, X74, e74, st74⟩ := initO X0 hx hZ hown (Wd34 hw) (Wd24 hw) (Wd25 hw) e0 (g := (fr_bctor m b c1 1  [(.ref b)])) rfl (by rw [hml]; rfl) rfl (hb hby d5_1) (by decide) (W := 0) (by show 2 * 0 + _ ≤ _; exact Nat.le_of_eq rfl) (by decide)
 refine ownBy st74 ?_
 clear st74
 show ownG p.tables e below _ (T74.setTop (fr_bctor m b c1 4  []))
 refine ownBy (A := T74.setTop (fr_bctor m b c1 7  [(.int (8 : Int32)), (.ref b)])) (fun t kt => ?_) ?_
 ·refine XS.aloadN X74.here hx rfl (hb hby d5_4) rfl rfl ?_
  show Steps p.tables e below (T74.setTop (fr_bctor m b c1 5  [(.ref b)])) t
  refine XS.bipush X74.here hx rfl (hb hby d5_5) ?_
  exact kt
 obtain ⟨T75, h75, k75, X75, e75, E75, A75, st75⟩ := newP X74 hx hZ (aty := .int) (Wd0 hw) e74 (g := (fr_bctor m b c1 7  [(.int (8 : Int32)), (.ref b)])) rfl (hb hby d5_7) rfl (by decide : ¬ ((8 : Int32) < (0 : Int32))) (cap := 8) (by decide) (by decide) (by decide) (by decide)
 obtain ⟨b75, g75⟩ : ∃ z, z = h0.size := ⟨_, rfl⟩
 rw [← g75] at A75 st75
 have ne76 : b ≠ b75 := Nat.ne_of_lt (Nat.lt_of_lt_of_le E1.lt (Nat.le_of_eq g75.symm))
 have ne77 : c1 ≠ b75 := Nat.ne_of_lt (Nat.lt_of_lt_of_le E2.lt (Nat.le_of_eq g75.symm))
 have g78 : n0 ≤ b75 := Nat.le_trans Z0 (Nat.le_of_eq g75.symm)
 have z79 : h0.size ≤ b75 := Nat.le_trans (Nat.le_refl h0.size) (Nat.le_of_eq g75.symm)
 have V80 : Arv Z h75 b75 k75 .int (8 : Int32) [(.int (0 : Int32)), (.int (0 : Int32)), (.int (0 : Int32)), (.int (0 : Int32)), (.int (0 : Int32)), (.int (0 : Int32)), (.int (0 : Int32)), (.int (0 : Int32))] (.int (0 : Int32)) := (Arv.new A75 (by decide)).pad (pad_rep [] (.int (0 : Int32)) 8)
 refine ownBy st75 ?_
 clear st75
 show ownG p.tables e below _ (T75.setTop (fr_bctor m b c1 9  [(.ref b75), (.ref b)]))
 have f82 := (F_years.ext E75)
 have f83 := (E1.ext E75)
 obtain ⟨T81, h81, X81, e81, W81, st81⟩ := putF X75 hx hZ hown (host := "") (Or.inl (Wd35 hw)) Via.refl e75 f82 f83 (Or.inl (Wd36 hw)) (Wd3 hw) (ty := (.array .int)) (by decide) rfl rfl (g := (fr_bctor m b c1 9  [(.ref b75), (.ref b)])) rfl rfl (hb hby d5_9)
 have F84 := f82.same W81
 have N85 := Fr.snoc X81 N0 g1
 obtain ⟨Lh86, Xh86, Nh86⟩ := oHd 1 8 X81 N85 rfl rfl
 refine ownBy st81 ?_
 clear st81
 show ownG p.tables e below _ (T81.setTop (fr_bctor m b c1 12  []))
 refine ownBy (A := T81.setTop (fr_bctor m b c1 15  [(.int (8 : Int32)), (.ref b)])) (fun t kt => ?_) ?_
 ·refine XS.aloadN Xh86.here hx rfl (hb hby d5_12) rfl rfl ?_
  show Steps p.tables e below (T81.setTop (fr_bctor m b c1 13  [(.ref b)])) t
  refine XS.bipush Xh86.here hx rfl (hb hby d5_13) ?_
  exact kt
 obtain ⟨T87, h87, k87, X87, e87, E87, A87, O87, st87⟩ := newR Xh86 hx hZ hown (Wd37 hw) (Wd38 hw) e81 (g := (fr_bctor m b c1 15  [(.int (8 : Int32)), (.ref b)])) rfl (hb hby d5_15) rfl (by decide : ¬ ((8 : Int32) < (0 : Int32))) (cap := 8) (by decide) (by decide) (by decide) (by decide)
 obtain ⟨b87, g87⟩ : ∃ z, z = h81.size := ⟨_, rfl⟩
 rw [← g87] at A87 st87
 have f89 := (f83.wr W81)
 have ne88 : b ≠ b87 := Nat.ne_of_lt (Nat.lt_of_lt_of_le f89.lt (Nat.le_of_eq g87.symm))
 have f91 := ((E2.ext E75).wr W81)
 have ne90 : c1 ≠ b87 := Nat.ne_of_lt (Nat.lt_of_lt_of_le f91.lt (Nat.le_of_eq g87.symm))
 have f93 := (V80.other W81 (Ne.symm ne76))
 have ne92 : b75 ≠ b87 := Nat.ne_of_lt (Nat.lt_of_lt_of_le f93.lt (Nat.le_of_eq g87.symm))
 have f95 := (Nat.le_trans (Nat.le_trans Z0 E75.1) (Keep.of_wr W81).1)
 have g94 : n0 ≤ b87 := Nat.le_trans f95 (Nat.le_of_eq g87.symm)
 have f97 := (Nat.le_trans (Nat.le_trans (Nat.le_refl h0.size) E75.1) (Keep.of_wr W81).1)
 have z96 : h0.size ≤ b87 := Nat.le_trans f97 (Nat.le_of_eq g87.symm)
 have V98 : Arv Z h87 b87 k87 (.object "java/math/BigDecimal") (8 : Int32) [.null, .null, .null, .null, .null, .null, .null, .null] .null := (Arv.new A87 (by decide)).pad (pad_rep [] .null 8)
 refine ownBy st87 ?_
 clear st87
 show ownG p.tables e below _ (T87.setTop (fr_bctor m b c1 18  [(.ref b87), (.ref b)]))
 have f100 := (((F_hours.ext E75).other W81 (Or.inr (slot_ne (Or.inl (Wd40 hw)) (Or.inl (Wd36 hw)) (by decide) (t := (.array (.object "java/math/BigDecimal"))) (t' := (.array .int)) (by decide) (by decide)))).ext E87)
 have f101 := (f89.ext E87)
 obtain ⟨T99, h99, X99, e99, W99, st99⟩ := putF X87 hx hZ hown (host := "") (Or.inl (Wd39 hw)) Via.refl e87 f100 f101 (Or.inl (Wd40 hw)) (Wd3 hw) (ty := (.array (.object "java/math/BigDecimal"))) (by decide) rfl rfl (g := (fr_bctor m b c1 18  [(.ref b87), (.ref b)])) rfl rfl (hb hby d5_18)
 have F102 := f100.same W99
 have N103 := Fr.snoc X99 Nh86 g1
 obtain ⟨Lh104, Xh104, Nh104⟩ := oHd 2 16 X99 N103 rfl rfl
 refine ownBy st99 ?_
 clear st99
 show ownG p.tables e below _ (T99.setTop (fr_bctor m b c1 21  []))
 refine ownBy (A := T99.setTop (fr_bctor m b c1 23  [(.ref c1), (.ref b)])) (fun t kt => ?_) ?_
 ·refine XS.aloadN Xh104.here hx rfl (hb hby d5_21) rfl rfl ?_
  show Steps p.tables e below (T99.setTop (fr_bctor m b c1 22  [(.ref b)])) t
  refine XS.aloadN Xh104.here hx rfl (hb hby d5_22) rfl rfl ?_
  exact kt
 have f106 := ((((F_columns.ext E75).other W81 (Or.inr (slot_ne (Or.inr (Wd42 hw)) (Or.inl (Wd36 hw)) (by decide) (t := (.object "java/util/List")) (t' := (.array .int)) (by decide) (by decide)))).ext E87).other W99 (Or.inr (slot_ne (Or.inr (Wd42 hw)) (Or.inl (Wd40 hw)) (by decide) (t := (.object "java/util/List")) (t' := (.array (.object "java/math/BigDecimal"))) (by decide) (by decide))))
 have f107 := (f101.wr W99)
 obtain ⟨T105, h105, X105, e105, W105, st105⟩ := putF Xh104 hx hZ hown (host := "") (Or.inl (Wd41 hw)) Via.refl e99 f106 f107 (Or.inr ⟨(Wd42 hw), rfl, hnm⟩) (Wd3 hw) (ty := (.object "java/util/List")) (by decide) rfl rfl (g := (fr_bctor m b c1 23  [(.ref c1), (.ref b)])) rfl rfl (hb hby d5_23)
 have F108 := f106.same W105
 have N109 := Fr.snoc X105 Nh104 g1
 obtain ⟨Lh110, Xh110, Nh110⟩ := oHd 2 16 X105 N109 rfl rfl
 refine ownBy st105 ?_
 clear st105
 show ownG p.tables e below _ (T105.setTop (fr_bctor m b c1 26  []))
 refine ownBy (A := T105.setTop (fr_bctor m b c1 28  [(.ref c1), (.ref b)])) (fun t kt => ?_) ?_
 ·refine XS.aloadN Xh110.here hx rfl (hb hby d5_26) rfl rfl ?_
  show Steps p.tables e below (T105.setTop (fr_bctor m b c1 27  [(.ref b)])) t
  refine XS.aloadN Xh110.here hx rfl (hb hby d5_27) rfl rfl ?_
  exact kt
 have f111 := (((((G2.ext E75).other W81 (Or.inl (Ne.symm ne1))).ext E87).other W99 (Or.inl (Ne.symm ne1))).other W105 (Or.inl (Ne.symm ne1)))
 have f112 := (Nat.le_trans (Nat.le_trans (Nat.le_trans f95 E87.1) (Keep.of_wr W99).1) (Keep.of_wr W105).1)
 have f115 := (((f91.ext E87).wr W99).wr W105)
 obtain ⟨cq113, kq113, q113a, q113b, q113c⟩ := isOf hZ e105 f115
 obtain ⟨vv113, _, ⟨T113, L113, k113, n113⟩, -, X113, ⟨Lc113, hQ113, l113, y113, z113⟩, st113⟩ := Xh110.interfaceBack hx (xi := (⟨"java/util/List", "size", "()I"⟩ : MethodName)) (y := (⟨"java/util/ArrayList", "size", "()I"⟩ : MethodName)) hown (mvT hZ (Wd43 hw)) (mvT hZ (Wd44 hw)) (mvT hZ (Wd45 hw)) (mvT hZ (Wd46 hw)) (mvT hZ (Wd47 hw)) (mvT hZ (Wd48 hw)) (mvT hZ (Wd49 hw)) (mvT hZ (Wd50 hw)) (by decide) (backOf (W := 1) (c_alsz l Z a0 hw [] c1 h105 n0 f112 f111) hZ (Wd51 hw) (Wd7 hw) (by decide) (by decide)) q113a q113b q113c (g := (fr_bctor m b c1 28  [(.ref c1), (.ref b)])) rfl (by rw [hml]; rfl) (Steps.refl _) (argsL := []) (rest := [(.ref b)]) (lenOf pd_114 rfl) rfl (by show 2 * 0 + _ ≤ _; exact Nat.le_of_eq rfl) (hb hby d5_28) (fun _ _ => ⟨rfl, e105, (by decide : 2 + 0 ≤ _), (by decide : 16 + 0 ≤ _)⟩)
 dsimp only [Pt.U, Pt.locs, Pt.cells, Pt.slots] at X113 l113 y113 z113 st113 hQ113
 subst l113 y113 z113
 obtain ⟨rfl, Nq113, Eq113⟩ := hQ113
 have N116 := Fr.app Nh110 Nq113
 obtain ⟨Lh117, Xh117, Nh117⟩ := oHd 2 16 X113 N116 rfl rfl
 refine ownSt st113 ?_
 clear st113
 show ownG p.tables e below _ (T113.setTop (fr_bctor m b c1 33  [(.int (0 : Int32)), (.ref b)]))
 refine ownBy (A := T113.setTop (fr_bctor m b c1 35  [(.int (8 : Int32)), (.int (0 : Int32)), (.ref b)])) (fun t kt => ?_) ?_
 ·refine XS.bipush Xh117.here hx rfl (hb hby d5_33) ?_
  exact kt
 obtain ⟨T118, h118, k118, kc118, X118, e118, E118, A118, O118, Ex118, -, st118⟩ := gridM Xh117 hx hZ (ty := .long) (C := "[J") (ad := "[[J") hown rfl rfl (Wd54 hw) (Wd55 hw) (Wd56 hw) Eq113 (g := (fr_bctor m b c1 35  [(.int (8 : Int32)), (.int (0 : Int32)), (.ref b)])) rfl (hb hby d5_35) rfl (by decide) (by decide) (xs := []) (N := 0) rfl rfl (cap := 8) (by decide) (by decide) (by decide) rfl rfl (by decide) (by decide)
 obtain ⟨b118, g118⟩ : ∃ z, z = h105.size := ⟨_, rfl⟩
 rw [← g118] at A118 Ex118 st118
 have f120 := (f107.wr W105)
 have ne119 : b ≠ b118 := Nat.ne_of_lt (Nat.lt_of_lt_of_le f120.lt (Nat.le_of_eq g118.symm))
 have ne121 : c1 ≠ b118 := Nat.ne_of_lt (Nat.lt_of_lt_of_le f115.lt (Nat.le_of_eq g118.symm))
 have f123 := (((f93.ext E87).other W99 (Ne.symm ne76)).other W105 (Ne.symm ne76))
 have ne122 : b75 ≠ b118 := Nat.ne_of_lt (Nat.lt_of_lt_of_le f123.lt (Nat.le_of_eq g118.symm))
 have f125 := ((V98.other W99 (Ne.symm ne88)).other W105 (Ne.symm ne88))
 have ne124 : b87 ≠ b118 := Nat.ne_of_lt (Nat.lt_of_lt_of_le f125.lt (Nat.le_of_eq g118.symm))
 have g126 : n0 ≤ b118 := Nat.le_trans f112 (Nat.le_of_eq g118.symm)
 have f128 := (Nat.le_trans (Nat.le_trans (Nat.le_trans f97 E87.1) (Keep.of_wr W99).1) (Keep.of_wr W105).1)
 have z127 : h0.size ≤ b118 := Nat.le_trans f128 (Nat.le_of_eq g118.symm)
 have V129 : Arv Z h118 b118 k118 (.array .long) (0 : Int32) [] .null := A118
 refine ownBy st118 ?_
 clear st118
 show ownG p.tables e below _ (T118.setTop (fr_bctor m b c1 39  [(.ref b118), (.ref b)]))
 have f131 := ((((((F_numbers.ext E75).other W81 (Or.inr (slot_ne (Or.inr (Wd58 hw)) (Or.inl (Wd36 hw)) (by decide) (t := (.array (.array .long))) (t' := (.array .int)) (by decide) (by decide)))).ext E87).other W99 (Or.inr (slot_ne (Or.inr (Wd58 hw)) (Or.inl (Wd40 hw)) (by decide) (t := (.array (.array .long))) (t' := (.array (.object "java/math/BigDecimal"))) (by decide) (by decide)))).other W105 (Or.inr (slot_ne (Or.inr (Wd58 hw)) (Or.inr (Wd42 hw)) (by decide) (t := (.array (.array .long))) (t' := (.object "java/util/List")) (by decide) (by decide)))).ext E118)
 have f132 := (f120.ext E118)
 obtain ⟨T130, h130, X130, e130, W130, st130⟩ := putF X118 hx hZ hown (host := "") (Or.inl (Wd57 hw)) Via.refl e118 f131 f132 (Or.inr ⟨(Wd58 hw), rfl, hnm⟩) (Wd3 hw) (ty := (.array (.array .long))) (by decide) rfl rfl (g := (fr_bctor m b c1 39  [(.ref b118), (.ref b)])) rfl rfl (hb hby d5_39)
 have F133 := f131.same W130
 have N134 := Fr.snoc X130 Nh117 g1
 obtain ⟨Lh135, Xh135, Nh135⟩ := oHd 3 16 X130 N134 rfl rfl
 refine ownBy st130 ?_
 clear st130
 show ownG p.tables e below _ (T130.setTop (fr_bctor m b c1 42  []))
 have f136 := (Nat.le_trans (Nat.le_trans f128 E118.1) (Keep.of_wr W130).1)
 have f137 := (f132.wr W130)
 have f138 := (((((F84.ext E87).other W99 (Or.inr (slot_ne (Or.inl (Wd36 hw)) (Or.inl (Wd40 hw)) (by decide) (t := (.array .int)) (t' := (.array (.object "java/math/BigDecimal"))) (by decide) (by decide)))).other W105 (Or.inr (slot_ne (Or.inl (Wd36 hw)) (Or.inr (Wd42 hw)) (by decide) (t := (.array .int)) (t' := (.object "java/util/List")) (by decide) (by decide)))).ext E118).other W130 (Or.inr (slot_ne (Or.inl (Wd36 hw)) (Or.inr (Wd58 hw)) (by decide) (t := (.array .int)) (t' := (.array (.array .long))) (by decide) (by decide))))
 have f139 := (((F102.other W105 (Or.inr (slot_ne (Or.inl (Wd40 hw)) (Or.inr (Wd42 hw)) (by decide) (t := (.array (.object "java/math/BigDecimal"))) (t' := (.object "java/util/List")) (by decide) (by decide)))).ext E118).other W130 (Or.inr (slot_ne (Or.inl (Wd40 hw)) (Or.inr (Wd58 hw)) (by decide) (t := (.array (.object "java/math/BigDecimal"))) (t' := (.array (.array .long))) (by decide) (by decide))))
 have f140 := (((((((F_size.ext E75).other W81 (Or.inr (slot_ne (Or.inl (Wd65 hw)) (Or.inl (Wd36 hw)) (by decide) (t := .int) (t' := (.array .int)) (by decide) (by decide)))).ext E87).other W99 (Or.inr (slot_ne (Or.inl (Wd65 hw)) (Or.inl (Wd40 hw)) (by decide) (t := .int) (t' := (.array (.object "java/math/BigDecimal"))) (by decide) (by decide)))).other W105 (Or.inr (slot_ne (Or.inl (Wd65 hw)) (Or.inr (Wd42 hw)) (by decide) (t := .int) (t' := (.object "java/util/List")) (by decide) (by decide)))).ext E118).other W130 (Or.inr (slot_ne (Or.inl (Wd65 hw)) (Or.inr (Wd58 hw)) (by decide) (t := .int) (t' := (.array (.array .long))) (by decide) (by decide))))
 have f141 := (((((((F_firstLine.ext E75).other W81 (Or.inr (slot_ne (Or.inl (Wd67 hw)) (Or.inl (Wd36 hw)) (by decide) (t := .long) (t' := (.array .int)) (by decide) (by decide)))).ext E87).other W99 (Or.inr (slot_ne (Or.inl (Wd67 hw)) (Or.inl (Wd40 hw)) (by decide) (t := .long) (t' := (.array (.object "java/math/BigDecimal"))) (by decide) (by decide)))).other W105 (Or.inr (slot_ne (Or.inl (Wd67 hw)) (Or.inr (Wd42 hw)) (by decide) (t := .long) (t' := (.object "java/util/List")) (by decide) (by decide)))).ext E118).other W130 (Or.inr (slot_ne (Or.inl (Wd67 hw)) (Or.inr (Wd58 hw)) (by decide) (t := .long) (t' := (.array (.array .long))) (by decide) (by decide))))
 have f142 := (((((((F_lines.ext E75).other W81 (Or.inr (slot_ne (Or.inl (Wd73 hw)) (Or.inl (Wd36 hw)) (by decide) (t := (.array .long)) (t' := (.array .int)) (by decide) (by decide)))).ext E87).other W99 (Or.inr (slot_ne (Or.inl (Wd73 hw)) (Or.inl (Wd40 hw)) (by decide) (t := (.array .long)) (t' := (.array (.object "java/math/BigDecimal"))) (by decide) (by decide)))).other W105 (Or.inr (slot_ne (Or.inl (Wd73 hw)) (Or.inr (Wd42 hw)) (by decide) (t := (.array .long)) (t' := (.object "java/util/List")) (by decide) (by decide)))).ext E118).other W130 (Or.inr (slot_ne (Or.inl (Wd73 hw)) (Or.inr (Wd58 hw)) (by decide) (t := (.array .long)) (t' := (.array (.array .long))) (by decide) (by decide))))
 have f143 := ((f123.ext E118).other W130 (Ne.symm ne76))
 have f144 := ((f125.ext E118).other W130 (Ne.symm ne88))
 have f145 := (V129.other W130 (Ne.symm ne119))
 refine ownRet Xh135 Bd.notSynchronized (v := none) (fun _ => rfl) ?_ (oLe rfl) (oLe rfl) (fun fs hr => Xh135.returnOut hx Bd.returns (hb hby d5_42) hr)
 show (Q_bctor Z b c1 h0 n0) (none) T130.heap _
 rw [e130]
 exact ⟨rfl, Nh135, f136, b75, b87, b118, k75, k87, k118, g78, g94, f137, f138, f139, F133, f140, f141, f142, f143, f144, f145⟩
abbrev fr_add0 (m : MethodId) (b : Addr) (p1 : Int32) (q1 : Int64) (pc : Nat) (x6_ x7_ : Slot) (st : List Value) : JFrame := mkF m pc #[.val (.ref b), .val (.int p1), .val .null, .val .null, .val (.long q1), .second, x6_, x7_, .unset] st
def Q_add0 (Z : State) (b : Addr) (y : Addr) (hh : Addr) (nn : Addr) (ky : ClassId) (kh : ClassId) (kn : ClassId) (p1 : Int32) (q1 : Int64) (h0 : Heap) (n0 : Nat) (v : Option Value) (h : Heap) (L : List Loc) : Prop := v = none ∧ Fr n0 L ∧ h0.size ≤ h.size ∧ ∃ (w0 : Int32) (u0 : Int64) (f2 : Int64) (lv2 : Value), ((w0 = p1 ∧ u0 = q1)) ∧ Exa Z h b "com/example/vestline/vestline/HoursByPlanYear$Builder" ∧ Fld Z h b "com/example/vestline/vestline/HoursByPlanYear$Builder" "years" "[I" (.ref y) ∧ Fld Z h b "com/example/vestline/vestline/HoursByPlanYear$Builder" "hours" "[Ljava/math/BigDecimal;" (.ref hh) ∧ Fld Z h b "com/example/vestline/vestline/HoursByPlanYear$Builder" "numbers" "[[J" (.ref nn) ∧ Fld Z h b "com/example/vestline/vestline/HoursByPlanYear$Builder" "size" "I" (.int (1 : Int32)) ∧ Fld Z h b "com/example/vestline/vestline/HoursByPlanYear$Builder" "firstLine" "J" (.long f2) ∧ Fld Z h b "com/example/vestline/vestline/HoursByPlanYear$Builder" "lines" "[J" lv2 ∧ Arv Z h y ky .int (8 : Int32) [(.int w0), (.int (0 : Int32)), (.int (0 : Int32)), (.int (0 : Int32)), (.int (0 : Int32)), (.int (0 : Int32)), (.int (0 : Int32)), (.int (0 : Int32))] (.int (0 : Int32)) ∧ Arv Z h hh kh (.object "java/math/BigDecimal") (8 : Int32) [.null, .null, .null, .null, .null, .null, .null, .null] .null ∧ Arv Z h nn kn (.array .long) (0 : Int32) [] .null ∧ ((lv2 = .null ∧ u0 = f2 + (0 : Int64)) ∨ ∃ (l : Addr) (kl : ClassId), lv2 = .ref l ∧ n0 ≤ l ∧ Arv Z h l kl .long (8 : Int32) [(.long u0), (.long (0 : Int64)), (.long (0 : Int64)), (.long (0 : Int64)), (.long (0 : Int64)), (.long (0 : Int64)), (.long (0 : Int64)), (.long (0 : Int64))] (.long (0 : Int64)))
theorem ef_add0 (m : MethodId) (x0 : Addr) (x1 : Int32) (x4 : Int64)  : entryFrame m #[(.ref x0), (.int x1), .null, .null, (.long x4)] 9 = mkF m 0 #[.val (.ref x0), .val (.int x1), .val .null, .val .null, .val (.long x4), .second, .unset, .unset, .unset] [] := by first | (simp [entryFrame, mkF, argsToLocals, Value.category]; done) | rfl
set_option maxRecDepth 65536 in
set_option maxHeartbeats 40000000 in
theorem c_add0 (l : Launch) (Z : State) (a0 : Array Value) (hw : ∀ d ∈ tables_1, d.before a0 Z = true) (ws : List Jvm.Cond) (b : Addr) (y : Addr) (hh : Addr) (nn : Addr) (ky : ClassId) (kh : ClassId) (kn : ClassId) (p1 : Int32) (q1 : Int64) (h0 : Heap) (n0 : Nat) (Z0 : n0 ≤ h0.size) (E1 : Exa Z h0 b "com/example/vestline/vestline/HoursByPlanYear$Builder") (Fy : Fld Z h0 b "com/example/vestline/vestline/HoursByPlanYear$Builder" "years" "[I" (.ref y)) (Fh : Fld Z h0 b "com/example/vestline/vestline/HoursByPlanYear$Builder" "hours" "[Ljava/math/BigDecimal;" (.ref hh)) (Fn : Fld Z h0 b "com/example/vestline/vestline/HoursByPlanYear$Builder" "numbers" "[[J" (.ref nn)) (Fs : Fld Z h0 b "com/example/vestline/vestline/HoursByPlanYear$Builder" "size" "I" (.int (0 : Int32))) (Ff : Fld Z h0 b "com/example/vestline/vestline/HoursByPlanYear$Builder" "firstLine" "J" (.long (0 : Int64))) (Fl : Fld Z h0 b "com/example/vestline/vestline/HoursByPlanYear$Builder" "lines" "[J" .null) (Ay : Arv Z h0 y ky .int (8 : Int32) [(.int (0 : Int32)), (.int (0 : Int32)), (.int (0 : Int32)), (.int (0 : Int32)), (.int (0 : Int32)), (.int (0 : Int32)), (.int (0 : Int32)), (.int (0 : Int32))] (.int (0 : Int32))) (Ah : Arv Z h0 hh kh (.object "java/math/BigDecimal") (8 : Int32) [.null, .null, .null, .null, .null, .null, .null, .null] .null) (An : Arv Z h0 nn kn (.array .long) (0 : Int32) [] .null) (gb : n0 ≤ b) (gy : n0 ≤ y) (gh : n0 ≤ hh) :
  MetFree l (⟨"com/example/vestline/vestline/HoursByPlanYear$Builder", "add", "(ILjava/math/BigDecimal;Ljava/util/List;J)V"⟩ : MethodName) (head1 (Jvm.Cond.code (⟨"com/example/vestline/vestline/HoursByPlanYear$Builder", "add", "(ILjava/math/BigDecimal;Ljava/util/List;J)V"⟩ : MethodName) prog_14_method_3_code 9 none :: ws) ({ frames := 2, cells := 1, slots := 8, locals := 40 } : Room)) (fun a U => a = #[(.ref b), (.int p1), .null, .null, (.long q1)] ∧ Z.Warmed39 U.vm ∧ U.heap = h0) (fun _ _ _ _ _ => True) (fun _ U o U' => ∃ v L, o = .returned v ∧ (Q_add0 Z b y hh nn ky kh kn p1 q1 h0 n0) v U'.heap L ∧ FrameEnd U o U' L ({ frames := 2, cells := 1, slots := 8, locals := 40 } : Room).cells ({ frames := 2, cells := 1, slots := 8, locals := 40 } : Room).slots) := by
 refine MetFree.of_bodySF (plainFor_of_name pn_73) hisR ?_
 intro p e s m args below meth c s₁ Bd hml0 hP hK
 obtain ⟨rfl, hZ, hHp⟩ := hP
 have hx := Bd.exec
 have hby := Bd.bytes
 have hml : c.maxLocals = 9 := hml0
 have hown : s.vm.findClass "com/example/vestline/vestline/HoursByPlanYear$Builder" = some m.cls := findClass_of_methodNamed Bd.named
 have hnm := (name_of_methodNamed Bd.named Bd.method).1
 have X0 : Stand p l e ({ frames := 2, cells := 1, slots := 8, locals := 40 } : Room) s m #[(.ref b), (.int p1), .null, .null, (.long q1)] below meth c s₁ [] 0 0 := Stand.of_body Bd
 have e0 : s₁.heap = h0 := by rw [← hHp, Bd.state]; rfl
 have N0 := Fr.nil n0
 refine ownOut (P := (Q_add0 Z b y hh nn ky kh kn p1 q1 h0 n0)) ?_
 refine ownBy (A := s₁.setTop (mkF m 0 #[.val (.ref b), .val (.int p1), .val .null, .val .null, .val (.long q1), .second, .unset, .unset, .unset] [])) (fun t k => castTop (ef_add0 m b p1 q1) k) ?_
 have ne146 : b ≠ y := Exa.neArv E1 Ay (Wd3 hw)
 have ne147 : b ≠ hh := Exa.neArv E1 Ah (Wd3 hw)
 have ne148 : b ≠ nn := Exa.neArv E1 An (Wd3 hw)
 have ne149 : y ≠ hh := own_ty_ne Ay Ah (by decide)
 have ne150 : y ≠ nn := own_ty_ne Ay An (by decide)
 have ne151 : hh ≠ nn := own_ty_ne Ah An (by decide)
 refine ownBy (A := s₁.setTop (fr_add0 m b p1 q1 1 .unset .unset [(.ref b)])) (fun t kt => ?_) ?_
 ·refine XS.aloadN X0.here hx rfl (hb hby d7_0) rfl rfl ?_
  exact kt
 refine own_getF X0 hx hZ hown (host := "") (Or.inl (Wd64 hw)) Via.refl e0 Fs (hb hby d7_1) (fun T152 X152 e152 => ?_)
 refine ownBy (A := T152.setTop (fr_add0 m b p1 q1 7 (.val (.int (0 : Int32))) .unset [(.ref b)])) (fun t kt => ?_) ?_
 ·refine XS.istore X152.here hx rfl (hb hby d7_4) rfl (l' := #[.val (.ref b), .val (.int p1), .val .null, .val .null, .val (.long q1), .second, .val (.int (0 : Int32)), .unset, .unset]) rfl ?_
  refine XS.aloadN X152.here hx rfl (hb hby d7_6) rfl rfl ?_
  exact kt
 refine own_getF X152 hx hZ hown (host := "") (Or.inl (Wd64 hw)) Via.refl e152 Fs (hb hby d7_7) (fun T153 X153 e153 => ?_)
 refine ownBy (A := T153.setTop (fr_add0 m b p1 q1 70 (.val (.int (0 : Int32))) .unset [(.ref b)])) (fun t kt => ?_) ?_
 ·refine XS.ifYes X153.here hx rfl (pc0 := 10) (pc' := 69) rfl (hb hby d7_10) rfl ((if0 _ _).trans (flt ((by decide) : ¬ ((0 : Int32) < (0 : Int32)))).2.2.2) (by decide) (by decide) ?_
  refine XS.aloadN X153.here hx rfl (hb hby d7_69) rfl rfl ?_
  exact kt
 refine own_getF X153 hx hZ hown (host := "") (Or.inl (Wd64 hw)) Via.refl e153 Fs (hb hby d7_70) (fun T154 X154 e154 => ?_)
 refine ownBy (A := T154.setTop (fr_add0 m b p1 q1 79 (.val (.int (0 : Int32))) .unset [(.long q1), (.ref b)])) (fun t kt => ?_) ?_
 ·refine XS.ifNo X154.here hx rfl (hb hby d7_73) rfl ((if0 _ _).trans (teq ((by decide) : (0 : Int32) = (0 : Int32))).2) ?_
  refine XS.aloadN X154.here hx rfl (hb hby d7_76) rfl rfl ?_
  refine XS.lload X154.here hx rfl (hb hby d7_77) rfl ?_
  exact kt
 obtain ⟨T155, h155, X155, e155, W155, st155⟩ := putF X154 hx hZ hown (host := "") (Or.inl (Wd66 hw)) Via.refl e154 Ff E1 (Or.inl (Wd67 hw)) (Wd3 hw) (ty := .long) (by decide) rfl rfl (g := (fr_add0 m b p1 q1 79 (.val (.int (0 : Int32))) .unset [(.long q1), (.ref b)])) rfl rfl (hb hby d7_79)
 have F156 := Ff.same W155
 have N157 := Fr.snoc X155 N0 gb
 obtain ⟨Lh158, Xh158, Nh158⟩ := oHd 0 0 X155 N157 rfl rfl
 refine ownBy st155 ?_
 clear st155
 show ownG p.tables e below _ (T155.setTop (fr_add0 m b p1 q1 82 (.val (.int (0 : Int32))) .unset []))
 refine ownBy (A := T155.setTop (fr_add0 m b p1 q1 162 (.val (.int (0 : Int32))) .unset [(.ref b)])) (fun t kt => ?_) ?_
 ·refine XS.goto Xh158.here hx rfl (pc0 := 82) (pc' := 161) rfl (hb hby d7_82) (by decide) (by decide) ?_
  refine XS.aloadN Xh158.here hx rfl (hb hby d7_161) rfl rfl ?_
  exact kt
 have f160 := (Fs.other W155 (Or.inr (slot_ne (Or.inl (Wd65 hw)) (Or.inl (Wd67 hw)) (by decide) (t := .int) (t' := .long) (by decide) (by decide))))
 refine own_getF Xh158 hx hZ hown (host := "") (Or.inl (Wd64 hw)) Via.refl e155 f160 (hb hby d7_162) (fun T159 X159 e159 => ?_)
 refine ownBy (A := T159.setTop (fr_add0 m b p1 q1 166 (.val (.int (0 : Int32))) .unset [(.ref b), (.int (0 : Int32))])) (fun t kt => ?_) ?_
 ·refine XS.aloadN X159.here hx rfl (hb hby d7_165) rfl rfl ?_
  exact kt
 have f162 := (Fy.other W155 (Or.inr (slot_ne (Or.inl (Wd36 hw)) (Or.inl (Wd67 hw)) (by decide) (t := (.array .int)) (t' := .long) (by decide) (by decide))))
 refine own_getF X159 hx hZ hown (host := "") (Or.inl (Wd35 hw)) Via.refl e159 f162 (hb hby d7_166) (fun T161 X161 e161 => ?_)
 have f163 := (Ay.other W155 (Ne.symm ne146))
 obtain ⟨cl164, Ar164, -, S164, N164, -, -⟩ := id f163
 have st164 := X161.arraylength hx (by rw [e161]; exact Ar164.1) (State.isArrayOf_alike hZ.alike Ar164.2.1) (g := (fr_add0 m b p1 q1 169 (.val (.int (0 : Int32))) .unset [(.ref y), (.int (0 : Int32))])) rfl rfl (hb hby d7_169)
 rw [len_of S164 N164] at st164
 refine ownBy st164 ?_
 show ownG p.tables e below _ (T161.setTop (fr_add0 m b p1 q1 170 (.val (.int (0 : Int32))) .unset [(.int (8 : Int32)), (.int (0 : Int32))]))
 refine ownBy (A := T161.setTop (fr_add0 m b p1 q1 277 (.val (.int (0 : Int32))) .unset [(.ref b)])) (fun t kt => ?_) ?_
 ·refine XS.icmpYes X161.here hx rfl (pc0 := 170) (pc' := 276) rfl (hb hby d7_170) rfl (feq ((by decide) : ¬ ((0 : Int32) = (8 : Int32)))).2 (by decide) (by decide) ?_
  refine XS.aloadN X161.here hx rfl (hb hby d7_276) rfl rfl ?_
  exact kt
 refine own_getF X161 hx hZ hown (host := "") (Or.inl (Wd35 hw)) Via.refl e161 f162 (hb hby d7_277) (fun T165 X165 e165 => ?_)
 refine ownBy (A := T165.setTop (fr_add0 m b p1 q1 283 (.val (.int (0 : Int32))) .unset [(.ref b), (.int (0 : Int32)), (.ref y)])) (fun t kt => ?_) ?_
 ·refine XS.iload X165.here hx rfl (hb hby d7_280) rfl ?_
  refine XS.aloadN X165.here hx rfl (hb hby d7_282) rfl rfl ?_
  exact kt
 refine own_getF X165 hx hZ hown (host := "") (Or.inl (Wd35 hw)) Via.refl e165 f162 (hb hby d7_283) (fun T166 X166 e166 => ?_)
 refine ownBy (A := T166.setTop (fr_add0 m b p1 q1 291 (.val (.int (0 : Int32))) .unset [(.ref b), (.int (1 : Int32)), (.ref y), (.int (0 : Int32)), (.ref y)])) (fun t kt => ?_) ?_
 ·refine XS.iload X166.here hx rfl (hb hby d7_286) rfl ?_
  refine XS.iconst X166.here hx rfl (hb hby d7_288) ?_
  refine XS.iadd X166.here hx rfl (hb hby d7_289) rfl ?_
  show Steps p.tables e below (T166.setTop (fr_add0 m b p1 q1 290 (.val (.int (0 : Int32))) .unset [(.int (1 : Int32)), (.ref y), (.int (0 : Int32)), (.ref y)])) t
  refine XS.aloadN X166.here hx rfl (hb hby d7_290) rfl rfl ?_
  exact kt
 refine own_getF X166 hx hZ hown (host := "") (Or.inl (Wd64 hw)) Via.refl e166 f160 (hb hby d7_291) (fun T167 X167 e167 => ?_)
 refine ownBy (A := T167.setTop (fr_add0 m b p1 q1 297 (.val (.int (0 : Int32))) .unset [(.int (0 : Int32)), (.int (1 : Int32)), (.ref y), (.int (0 : Int32)), (.ref y)])) (fun t kt => ?_) ?_
 ·refine XS.iload X167.here hx rfl (hb hby d7_294) rfl ?_
  refine XS.isub X167.here hx rfl (hb hby d7_296) rfl ?_
  exact kt
 obtain ⟨T168, h168, L168, X168, e168, Nq168, K168, A168, st168⟩ := cpA X167 hx hZ hown (Wd68 hw) (Wd71 hw) (Wd69 hw) (Wd70 hw) e167 f163 f163 (us := []) (Or.inl ⟨rfl, rfl⟩) (sp := (0 : Int32)) (dp := (1 : Int32)) (nn := (0 : Int32)) (by decide) (by decide) (by decide) (by decide) (by decide) rfl (oLe rfl) Nh158 gy (g := (fr_add0 m b p1 q1 297 (.val (.int (0 : Int32))) .unset [(.int (0 : Int32)), (.int (1 : Int32)), (.ref y), (.int (0 : Int32)), (.ref y)])) rfl (by rw [hml]; rfl) rfl (hb hby d7_297) (by decide) (W := 0) (by show 2 * 0 + _ ≤ _; exact Nat.le_of_eq rfl) (by decide)
 have V169 : Arv Z h168 y ky .int (8 : Int32) [(.int (0 : Int32)), (.int (0 : Int32)), (.int (0 : Int32)), (.int (0 : Int32)), (.int (0 : Int32)), (.int (0 : Int32)), (.int (0 : Int32)), (.int (0 : Int32))] (.int (0 : Int32)) := A168
 refine ownBy st168 ?_
 clear st168
 show ownG p.tables e below _ (T168.setTop (fr_add0 m b p1 q1 300 (.val (.int (0 : Int32))) .unset []))
 refine ownBy (A := T168.setTop (fr_add0 m b p1 q1 301 (.val (.int (0 : Int32))) .unset [(.ref b)])) (fun t kt => ?_) ?_
 ·refine XS.aloadN X168.here hx rfl (hb hby d7_300) rfl rfl ?_
  exact kt
 have f171 := ((Fh.other W155 (Or.inr (slot_ne (Or.inl (Wd40 hw)) (Or.inl (Wd67 hw)) (by decide) (t := (.array (.object "java/math/BigDecimal"))) (t' := .long) (by decide) (by decide)))).keep K168 (ninS ne146 nin0))
 refine own_getF X168 hx hZ hown (host := "") (Or.inl (Wd39 hw)) Via.refl e168 f171 (hb hby d7_301) (fun T170 X170 e170 => ?_)
 refine ownBy (A := T170.setTop (fr_add0 m b p1 q1 307 (.val (.int (0 : Int32))) .unset [(.ref b), (.int (0 : Int32)), (.ref hh)])) (fun t kt => ?_) ?_
 ·refine XS.iload X170.here hx rfl (hb hby d7_304) rfl ?_
  refine XS.aloadN X170.here hx rfl (hb hby d7_306) rfl rfl ?_
  exact kt
 refine own_getF X170 hx hZ hown (host := "") (Or.inl (Wd39 hw)) Via.refl e170 f171 (hb hby d7_307) (fun T172 X172 e172 => ?_)
 refine ownBy (A := T172.setTop (fr_add0 m b p1 q1 315 (.val (.int (0 : Int32))) .unset [(.ref b), (.int (1 : Int32)), (.ref hh), (.int (0 : Int32)), (.ref hh)])) (fun t kt => ?_) ?_
 ·refine XS.iload X172.here hx rfl (hb hby d7_310) rfl ?_
  refine XS.iconst X172.here hx rfl (hb hby d7_312) ?_
  refine XS.iadd X172.here hx rfl (hb hby d7_313) rfl ?_
  show Steps p.tables e below (T172.setTop (fr_add0 m b p1 q1 314 (.val (.int (0 : Int32))) .unset [(.int (1 : Int32)), (.ref hh), (.int (0 : Int32)), (.ref hh)])) t
  refine XS.aloadN X172.here hx rfl (hb hby d7_314) rfl rfl ?_
  exact kt
 have f174 := (f160.keep K168 (ninS ne146 nin0))
 refine own_getF X172 hx hZ hown (host := "") (Or.inl (Wd64 hw)) Via.refl e172 f174 (hb hby d7_315) (fun T173 X173 e173 => ?_)
 refine ownBy (A := T173.setTop (fr_add0 m b p1 q1 321 (.val (.int (0 : Int32))) .unset [(.int (0 : Int32)), (.int (1 : Int32)), (.ref hh), (.int (0 : Int32)), (.ref hh)])) (fun t kt => ?_) ?_
 ·refine XS.iload X173.here hx rfl (hb hby d7_318) rfl ?_
  refine XS.isub X173.here hx rfl (hb hby d7_320) rfl ?_
  exact kt
 have f176 := ((Ah.other W155 (Ne.symm ne147)).keep K168 (ninS (Ne.symm ne149) nin0))
 obtain ⟨T175, h175, L175, X175, e175, Nq175, K175, A175, st175⟩ := cpA X173 hx hZ hown (Wd68 hw) (Wd71 hw) (Wd69 hw) (Wd70 hw) e173 f176 f176 (us := []) (Or.inr ⟨rfl, rfl, trivial⟩) (sp := (0 : Int32)) (dp := (1 : Int32)) (nn := (0 : Int32)) (by decide) (by decide) (by decide) (by decide) (by decide) rfl (oLe rfl) Nq168 gh (g := (fr_add0 m b p1 q1 321 (.val (.int (0 : Int32))) .unset [(.int (0 : Int32)), (.int (1 : Int32)), (.ref hh), (.int (0 : Int32)), (.ref hh)])) rfl (by rw [hml]; rfl) rfl (hb hby d7_321) (by decide) (W := 0) (by show 2 * 0 + _ ≤ _; exact Nat.le_of_eq rfl) (by decide)
 have V177 : Arv Z h175 hh kh (.object "java/math/BigDecimal") (8 : Int32) [.null, .null, .null, .null, .null, .null, .null, .null] .null := A175
 refine ownBy st175 ?_
 clear st175
 show ownG p.tables e below _ (T175.setTop (fr_add0 m b p1 q1 324 (.val (.int (0 : Int32))) .unset []))
 refine ownBy (A := T175.setTop (fr_add0 m b p1 q1 325 (.val (.int (0 : Int32))) .unset [(.ref b)])) (fun t kt => ?_) ?_
 ·refine XS.aloadN X175.here hx rfl (hb hby d7_324) rfl rfl ?_
  exact kt
 have f179 := ((f162.keep K168 (ninS ne146 nin0)).keep K175 (ninS ne147 nin0))
 refine own_getF X175 hx hZ hown (host := "") (Or.inl (Wd35 hw)) Via.refl e175 f179 (hb hby d7_325) (fun T178 X178 e178 => ?_)
 refine ownBy (A := T178.setTop (fr_add0 m b p1 q1 331 (.val (.int (0 : Int32))) .unset [(.int p1), (.int (0 : Int32)), (.ref y)])) (fun t kt => ?_) ?_
 ·refine XS.iload X178.here hx rfl (hb hby d7_328) rfl ?_
  refine XS.iloadN X178.here hx rfl (hb hby d7_330) rfl ?_
  exact kt
 have f180 := (V169.keep K175 (ninS ne149 nin0))
 obtain ⟨cl181, Ar181, q181, S181, N181, H181, G181⟩ := id f180
 have hin181 : ¬ ((0 : Int32) < 0 ∨ cl181.slots.size ≤ ((0 : Int32)).toNatClampNeg) := inb_of S181 ⟨by decide, by decide⟩
 obtain ⟨T181, h181, X181, e181, W181, st181⟩ := stI X178 hx hZ e178 Ar181 (j := (0 : Int32)) hin181 (g := (fr_add0 m b p1 q1 331 (.val (.int (0 : Int32))) .unset [(.int p1), (.int (0 : Int32)), (.ref y)])) rfl rfl (hb hby d7_331)
 have V182 : Arv Z h181 y ky .int (8 : Int32) [(.int p1), (.int (0 : Int32)), (.int (0 : Int32)), (.int (0 : Int32)), (.int (0 : Int32)), (.int (0 : Int32)), (.int (0 : Int32)), (.int (0 : Int32))] (.int (0 : Int32)) := Arv.set Ar181 q181 S181 N181 H181 G181 rfl W181 0 rfl (oLe rfl)
 clear hin181 G181 H181 N181 S181 q181 Ar181 cl181 f180
 have N183 := Fr.snoc X181 Nq175 gy
 obtain ⟨Lh184, Xh184, Nh184⟩ := oHd 0 0 X181 N183 rfl rfl
 refine ownBy st181 ?_
 clear st181
 show ownG p.tables e below _ (T181.setTop (fr_add0 m b p1 q1 332 (.val (.int (0 : Int32))) .unset []))
 refine ownBy (A := T181.setTop (fr_add0 m b p1 q1 333 (.val (.int (0 : Int32))) .unset [(.ref b)])) (fun t kt => ?_) ?_
 ·refine XS.aloadN Xh184.here hx rfl (hb hby d7_332) rfl rfl ?_
  exact kt
 have f186 := ((f171.keep K175 (ninS ne147 nin0)).other W181 (Or.inl ne146))
 refine own_getF Xh184 hx hZ hown (host := "") (Or.inl (Wd39 hw)) Via.refl e181 f186 (hb hby d7_333) (fun T185 X185 e185 => ?_)
 refine ownBy (A := T185.setTop (fr_add0 m b p1 q1 339 (.val (.int (0 : Int32))) .unset [.null, (.int (0 : Int32)), (.ref hh)])) (fun t kt => ?_) ?_
 ·refine XS.iload X185.here hx rfl (hb hby d7_336) rfl ?_
  refine XS.aloadN X185.here hx rfl (hb hby d7_338) rfl rfl ?_
  exact kt
 have f187 := (V177.other W181 (Ne.symm ne149))
 obtain ⟨cl188, Ar188, q188, S188, N188, H188, G188⟩ := id f187
 have hin188 : ¬ ((0 : Int32) < 0 ∨ cl188.slots.size ≤ ((0 : Int32)).toNatClampNeg) := inb_of S188 ⟨by decide, by decide⟩
 obtain ⟨T188, h188, X188, e188, W188, st188⟩ := stR X185 hx hZ e185 Ar188 (j := (0 : Int32)) hin188 rfl (Or.inl rfl) (g := (fr_add0 m b p1 q1 339 (.val (.int (0 : Int32))) .unset [.null, (.int (0 : Int32)), (.ref hh)])) rfl rfl (hb hby d7_339)
 have V189 : Arv Z h188 hh kh (.object "java/math/BigDecimal") (8 : Int32) [.null, .null, .null, .null, .null, .null, .null, .null] .null := Arv.set Ar188 q188 S188 N188 H188 G188 rfl W188 0 rfl (oLe rfl)
 have N190 := Fr.snoc X188 Nh184 gh
 obtain ⟨Lh191, Xh191, Nh191⟩ := oHd 0 0 X188 N190 rfl rfl
 refine ownBy st188 ?_
 clear st188
 show ownG p.tables e below _ (T188.setTop (fr_add0 m b p1 q1 340 (.val (.int (0 : Int32))) .unset []))
 refine ownBy (A := T188.setTop (fr_add0 m b p1 q1 341 (.val (.int (0 : Int32))) .unset [(.ref b)])) (fun t kt => ?_) ?_
 ·refine XS.aloadN Xh191.here hx rfl (hb hby d7_340) rfl rfl ?_
  exact kt
 have f193 := (((((Fl.other W155 (Or.inr (slot_ne (Or.inl (Wd73 hw)) (Or.inl (Wd67 hw)) (by decide) (t := (.array .long)) (t' := .long) (by decide) (by decide)))).keep K168 (ninS ne146 nin0)).keep K175 (ninS ne147 nin0)).other W181 (Or.inl ne146)).other W188 (Or.inl ne147))
 refine own_getF Xh191 hx hZ hown (host := "") (Or.inl (Wd72 hw)) Via.refl e188 f193 (hb hby d7_341) (fun T192 X192 e192 => ?_)
 refine ownBy (A := T192.setTop (fr_add0 m b p1 q1 386 (.val (.int (0 : Int32))) (.val (.int (0 : Int32))) [(.ref b), (.int (0 : Int32))])) (fun t kt => ?_) ?_
 ·refine XS.ifnullYes X192.here hx rfl (pc0 := 344) (pc' := 380) rfl (hb hby d7_344) rfl (by decide) (by decide) ?_
  refine XS.iconst X192.here hx rfl (hb hby d7_380) ?_
  refine XS.istore X192.here hx rfl (hb hby d7_381) rfl (l' := #[.val (.ref b), .val (.int p1), .val .null, .val .null, .val (.long q1), .second, .val (.int (0 : Int32)), .val (.int (0 : Int32)), .unset]) rfl ?_
  show Steps p.tables e below (T192.setTop (fr_add0 m b p1 q1 383 (.val (.int (0 : Int32))) (.val (.int (0 : Int32))) [])) t
  refine XS.iload X192.here hx rfl (hb hby d7_383) rfl ?_
  refine XS.aloadN X192.here hx rfl (hb hby d7_385) rfl rfl ?_
  exact kt
 have f195 := (((((Fn.other W155 (Or.inr (slot_ne (Or.inr (Wd58 hw)) (Or.inl (Wd67 hw)) (by decide) (t := (.array (.array .long))) (t' := .long) (by decide) (by decide)))).keep K168 (ninS ne146 nin0)).keep K175 (ninS ne147 nin0)).other W181 (Or.inl ne146)).other W188 (Or.inl ne147))
 refine own_getF X192 hx hZ hown (host := "") (Or.inl (Wd57 hw)) Via.refl e192 f195 (hb hby d7_386) (fun T194 X194 e194 => ?_)
 have f196 := (((((An.other W155 (Ne.symm ne148)).keep K168 (ninS (Ne.symm ne150) nin0)).keep K175 (ninS (Ne.symm ne151) nin0)).other W181 (Ne.symm ne150)).other W188 (Ne.symm ne151))
 obtain ⟨cl197, Ar197, -, S197, N197, -, -⟩ := id f196
 have st197 := X194.arraylength hx (by rw [e194]; exact Ar197.1) (State.isArrayOf_alike hZ.alike Ar197.2.1) (g := (fr_add0 m b p1 q1 389 (.val (.int (0 : Int32))) (.val (.int (0 : Int32))) [(.ref nn), (.int (0 : Int32))])) rfl rfl (hb hby d7_389)
 rw [len_of S197 N197] at st197
 refine ownBy st197 ?_
 show ownG p.tables e below _ (T194.setTop (fr_add0 m b p1 q1 390 (.val (.int (0 : Int32))) (.val (.int (0 : Int32))) [(.int (0 : Int32)), (.int (0 : Int32))]))
 refine ownBy (A := T194.setTop (fr_add0 m b p1 q1 463 (.val (.int (0 : Int32))) (.val (.int (0 : Int32))) [(.ref b), (.ref b)])) (fun t kt => ?_) ?_
 ·refine XS.icmpYes X194.here hx rfl (pc0 := 390) (pc' := 461) rfl (hb hby d7_390) rfl (flt ((by decide) : ¬ ((0 : Int32) < (0 : Int32)))).2.1 (by decide) (by decide) ?_
  refine XS.aloadN X194.here hx rfl (hb hby d7_461) rfl rfl ?_
  refine XS.dup X194.here hx rfl (hb hby d7_462) rfl rfl ?_
  exact kt
 have f199 := (((f174.keep K175 (ninS ne147 nin0)).other W181 (Or.inl ne146)).other W188 (Or.inl ne147))
 refine own_getF X194 hx hZ hown (host := "") (Or.inl (Wd64 hw)) Via.refl e194 f199 (hb hby d7_463) (fun T198 X198 e198 => ?_)
 refine ownBy (A := T198.setTop (fr_add0 m b p1 q1 468 (.val (.int (0 : Int32))) (.val (.int (0 : Int32))) [(.int (1 : Int32)), (.ref b)])) (fun t kt => ?_) ?_
 ·refine XS.iconst X198.here hx rfl (hb hby d7_466) ?_
  refine XS.iadd X198.here hx rfl (hb hby d7_467) rfl ?_
  exact kt
 have f201 := (((((E1.wr W155).keep K168).keep K175).wr W181).wr W188)
 obtain ⟨T200, h200, X200, e200, W200, st200⟩ := putF X198 hx hZ hown (host := "") (Or.inl (Wd64 hw)) Via.refl e198 f199 f201 (Or.inl (Wd65 hw)) (Wd3 hw) (ty := .int) (by decide) rfl rfl (g := (fr_add0 m b p1 q1 468 (.val (.int (0 : Int32))) (.val (.int (0 : Int32))) [(.int (1 : Int32)), (.ref b)])) rfl rfl (hb hby d7_468)
 have F202 := f199.same W200
 have N203 := Fr.snoc X200 Nh191 gb
 obtain ⟨Lh204, Xh204, Nh204⟩ := oHd 0 0 X200 N203 rfl rfl
 refine ownBy st200 ?_
 clear st200
 show ownG p.tables e below _ (T200.setTop (fr_add0 m b p1 q1 471 (.val (.int (0 : Int32))) (.val (.int (0 : Int32))) []))
 have f205 := (f201.wr W200)
 have f206 := (((f179.other W181 (Or.inl ne146)).other W188 (Or.inl ne147)).other W200 (Or.inr (slot_ne (Or.inl (Wd36 hw)) (Or.inl (Wd65 hw)) (by decide) (t := (.array .int)) (t' := .int) (by decide) (by decide))))
 have f207 := ((f186.other W188 (Or.inl ne147)).other W200 (Or.inr (slot_ne (Or.inl (Wd40 hw)) (Or.inl (Wd65 hw)) (by decide) (t := (.array (.object "java/math/BigDecimal"))) (t' := .int) (by decide) (by decide))))
 have f208 := (f195.other W200 (Or.inr (slot_ne (Or.inr (Wd58 hw)) (Or.inl (Wd65 hw)) (by decide) (t := (.array (.array .long))) (t' := .int) (by decide) (by decide))))
 have f209 := (((((F156.keep K168 (ninS ne146 nin0)).keep K175 (ninS ne147 nin0)).other W181 (Or.inl ne146)).other W188 (Or.inl ne147)).other W200 (Or.inr (slot_ne (Or.inl (Wd67 hw)) (Or.inl (Wd65 hw)) (by decide) (t := .long) (t' := .int) (by decide) (by decide))))
 have f210 := (f193.other W200 (Or.inr (slot_ne (Or.inl (Wd73 hw)) (Or.inl (Wd65 hw)) (by decide) (t := (.array .long)) (t' := .int) (by decide) (by decide))))
 have f211 := ((V182.other W188 ne149).other W200 (Ne.symm ne146))
 have f212 := (V189.other W200 (Ne.symm ne147))
 have f213 := (f196.other W200 (Ne.symm ne148))
 have f214 := (Nat.le_trans (Nat.le_trans (Nat.le_trans (Nat.le_trans (Nat.le_trans (Nat.le_trans (Nat.le_refl h0.size) (Keep.of_wr W155).1) K168.1) K175.1) (Keep.of_wr W181).1) (Keep.of_wr W188).1) (Keep.of_wr W200).1)
 refine ownRet Xh204 Bd.notSynchronized (v := none) (fun _ => rfl) ?_ (oLe rfl) (oLe rfl) (fun fs hr => Xh204.returnOut hx Bd.returns (hb hby d7_471) hr)
 show (Q_add0 Z b y hh nn ky kh kn p1 q1 h0 n0) (none) T200.heap _
 rw [e200]
 exact ⟨rfl, Nh204, f214, p1, q1, q1, .null, ⟨rfl, rfl⟩, f205, f206, f207, f208, F202, f209, f210, f211, f212, f213, Or.inl ⟨rfl, (Int64.add_zero q1).symm⟩⟩
abbrev fr_add1 (m : MethodId) (b : Addr) (p1 : Int32) (q1 : Int64) (pc : Nat) (x6_ x7_ : Slot) (st : List Value) : JFrame := mkF m pc #[.val (.ref b), .val (.int p1), .val .null, .val .null, .val (.long q1), .second, x6_, x7_, .unset] st
def Q_add1 (Z : State) (b : Addr) (y : Addr) (hh : Addr) (nn : Addr) (ky : ClassId) (kh : ClassId) (kn : ClassId) (z0 : Int32) (m0 : Int64) (f1 : Int64) (lv : Value) (p1 : Int32) (q1 : Int64) (h0 : Heap) (n0 : Nat) (v : Option Value) (h : Heap) (L : List Loc) : Prop := v = none ∧ Fr n0 L ∧ h0.size ≤ h.size ∧ ∃ (w0 w1 : Int32) (u0 u1 : Int64) (f2 : Int64) (lv2 : Value), w0 < w1 ∧ ((w0 = p1 ∧ u0 = q1 ∧ w1 = z0 ∧ u1 = m0) ∨ (w0 = z0 ∧ u0 = m0 ∧ w1 = p1 ∧ u1 = q1)) ∧ Exa Z h b "com/example/vestline/vestline/HoursByPlanYear$Builder" ∧ Fld Z h b "com/example/vestline/vestline/HoursByPlanYear$Builder" "years" "[I" (.ref y) ∧ Fld Z h b "com/example/vestline/vestline/HoursByPlanYear$Builder" "hours" "[Ljava/math/BigDecimal;" (.ref hh) ∧ Fld Z h b "com/example/vestline/vestline/HoursByPlanYear$Builder" "numbers" "[[J" (.ref nn) ∧ Fld Z h b "com/example/vestline/vestline/HoursByPlanYear$Builder" "size" "I" (.int (2 : Int32)) ∧ Fld Z h b "com/example/vestline/vestline/HoursByPlanYear$Builder" "firstLine" "J" (.long f2) ∧ Fld Z h b "com/example/vestline/vestline/HoursByPlanYear$Builder" "lines" "[J" lv2 ∧ Arv Z h y ky .int (8 : Int32) [(.int w0), (.int w1), (.int (0 : Int32)), (.int (0 : Int32)), (.int (0 : Int32)), (.int (0 : Int32)), (.int (0 : Int32)), (.int (0 : Int32))] (.int (0 : Int32)) ∧ Arv Z h hh kh (.object "java/math/BigDecimal") (8 : Int32) [.null, .null, .null, .null, .null, .null, .null, .null] .null ∧ Arv Z h nn kn (.array .long) (0 : Int32) [] .null ∧ ((lv2 = .null ∧ u0 = f2 + (0 : Int64) ∧ u1 = f2 + (1 : Int64)) ∨ ∃ (l : Addr) (kl : ClassId), lv2 = .ref l ∧ n0 ≤ l ∧ Arv Z h l kl .long (8 : Int32) [(.long u0), (.long u1), (.long (0 : Int64)), (.long (0 : Int64)), (.long (0 : Int64)), (.long (0 : Int64)), (.long (0 : Int64)), (.long (0 : Int64))] (.long (0 : Int64)))
theorem ef_add1 (m : MethodId) (x0 : Addr) (x1 : Int32) (x4 : Int64)  : entryFrame m #[(.ref x0), (.int x1), .null, .null, (.long x4)] 9 = mkF m 0 #[.val (.ref x0), .val (.int x1), .val .null, .val .null, .val (.long x4), .second, .unset, .unset, .unset] [] := by first | (simp [entryFrame, mkF, argsToLocals, Value.category]; done) | rfl
set_option maxRecDepth 65536 in
set_option maxHeartbeats 40000000 in
theorem c_add1 (l : Launch) (Z : State) (a0 : Array Value) (hw : ∀ d ∈ tables_1, d.before a0 Z = true) (ws : List Jvm.Cond) (b : Addr) (y : Addr) (hh : Addr) (nn : Addr) (ky : ClassId) (kh : ClassId) (kn : ClassId) (z0 : Int32) (m0 : Int64) (f1 : Int64) (lv : Value) (p1 : Int32) (q1 : Int64) (h0 : Heap) (n0 : Nat) (Z0 : n0 ≤ h0.size) (E1 : Exa Z h0 b "com/example/vestline/vestline/HoursByPlanYear$Builder") (Fy : Fld Z h0 b "com/example/vestline/vestline/HoursByPlanYear$Builder" "years" "[I" (.ref y)) (Fh : Fld Z h0 b "com/example/vestline/vestline/HoursByPlanYear$Builder" "hours" "[Ljava/math/BigDecimal;" (.ref hh)) (Fn : Fld Z h0 b "com/example/vestline/vestline/HoursByPlanYear$Builder" "numbers" "[[J" (.ref nn)) (Fs : Fld Z h0 b "com/example/vestline/vestline/HoursByPlanYear$Builder" "size" "I" (.int (1 : Int32))) (Ff : Fld Z h0 b "com/example/vestline/vestline/HoursByPlanYear$Builder" "firstLine" "J" (.long f1)) (Fl : Fld Z h0 b "com/example/vestline/vestline/HoursByPlanYear$Builder" "lines" "[J" lv) (Ay : Arv Z h0 y ky .int (8 : Int32) [(.int z0), (.int (0 : Int32)), (.int (0 : Int32)), (.int (0 : Int32)), (.int (0 : Int32)), (.int (0 : Int32)), (.int (0 : Int32)), (.int (0 : Int32))] (.int (0 : Int32))) (Ah : Arv Z h0 hh kh (.object "java/math/BigDecimal") (8 : Int32) [.null, .null, .null, .null, .null, .null, .null, .null] .null) (An : Arv Z h0 nn kn (.array .long) (0 : Int32) [] .null) (hLN : ((lv = .null ∧ m0 = f1 + (0 : Int64)) ∨ ∃ (l : Addr) (kl : ClassId), lv = .ref l ∧ n0 ≤ l ∧ Arv Z h0 l kl .long (8 : Int32) [(.long m0), (.long (0 : Int64)), (.long (0 : Int64)), (.long (0 : Int64)), (.long (0 : Int64)), (.long (0 : Int64)), (.long (0 : Int64)), (.long (0 : Int64))] (.long (0 : Int64)))) (gb : n0 ≤ b) (gy : n0 ≤ y) (gh : n0 ≤ hh) (hne0 : ¬ (p1 = z0)) :
  MetFree l (⟨"com/example/vestline/vestline/HoursByPlanYear$Builder", "add", "(ILjava/math/BigDecimal;Ljava/util/List;J)V"⟩ : MethodName) (head1 (Jvm.Cond.code (⟨"com/example/vestline/vestline/HoursByPlanYear$Builder", "add", "(ILjava/math/BigDecimal;Ljava/util/List;J)V"⟩ : MethodName) prog_14_method_3_code 9 none :: ws) ({ frames := 2, cells := 1, slots := 8, locals := 40 } : Room)) (fun a U => a = #[(.ref b), (.int p1), .null, .null, (.long q1)] ∧ Z.Warmed39 U.vm ∧ U.heap = h0) (fun _ _ _ _ _ => True) (fun _ U o U' => ∃ v L, o = .returned v ∧ (Q_add1 Z b y hh nn ky kh kn z0 m0 f1 lv p1 q1 h0 n0) v U'.heap L ∧ FrameEnd U o U' L ({ frames := 2, cells := 1, slots := 8, locals := 40 } : Room).cells ({ frames := 2, cells := 1, slots := 8, locals := 40 } : Room).slots) := by
 refine MetFree.of_bodySF (plainFor_of_name pn_73) hisR ?_
 intro p e s m args below meth c s₁ Bd hml0 hP hK
 obtain ⟨rfl, hZ, hHp⟩ := hP
 have hx := Bd.exec
 have hby := Bd.bytes
 have hml : c.maxLocals = 9 := hml0
 have hown : s.vm.findClass "com/example/vestline/vestline/HoursByPlanYear$Builder" = some m.cls := findClass_of_methodNamed Bd.named
 have hnm := (name_of_methodNamed Bd.named Bd.method).1
 have X0 : Stand p l e ({ frames := 2, cells := 1, slots := 8, locals := 40 } : Room) s m #[(.ref b), (.int p1), .null, .null, (.long q1)] below meth c s₁ [] 0 0 := Stand.of_body Bd
 have e0 : s₁.heap = h0 := by rw [← hHp, Bd.state]; rfl
 have N0 := Fr.nil n0
 refine ownOut (P := (Q_add1 Z b y hh nn ky kh kn z0 m0 f1 lv p1 q1 h0 n0)) ?_
 refine ownBy (A := s₁.setTop (mkF m 0 #[.val (.ref b), .val (.int p1), .val .null, .val .null, .val (.long q1), .second, .unset, .unset, .unset] [])) (fun t k => castTop (ef_add1 m b p1 q1) k) ?_
 have ne215 : b ≠ y := Exa.neArv E1 Ay (Wd3 hw)
 have ne216 : b ≠ hh := Exa.neArv E1 Ah (Wd3 hw)
 have ne217 : b ≠ nn := Exa.neArv E1 An (Wd3 hw)
 have ne218 : y ≠ hh := own_ty_ne Ay Ah (by decide)
 have ne219 : y ≠ nn := own_ty_ne Ay An (by decide)
 have ne220 : hh ≠ nn := own_ty_ne Ah An (by decide)
 rcases hLN with ⟨hlv, hm0⟩ | ⟨ln, kl, hlv, gl, Al⟩
 ·rw [hlv] at Fl
  refine ownBy (A := s₁.setTop (fr_add1 m b p1 q1 1 .unset .unset [(.ref b)])) (fun t kt => ?_) ?_
  ·refine XS.aloadN X0.here hx rfl (hb hby d7_0) rfl rfl ?_
   exact kt
  refine own_getF X0 hx hZ hown (host := "") (Or.inl (Wd64 hw)) Via.refl e0 Fs (hb hby d7_1) (fun T221 X221 e221 => ?_)
  refine ownBy (A := T221.setTop (fr_add1 m b p1 q1 7 (.val (.int (1 : Int32))) .unset [(.ref b)])) (fun t kt => ?_) ?_
  ·refine XS.istore X221.here hx rfl (hb hby d7_4) rfl (l' := #[.val (.ref b), .val (.int p1), .val .null, .val .null, .val (.long q1), .second, .val (.int (1 : Int32)), .unset, .unset]) rfl ?_
   refine XS.aloadN X221.here hx rfl (hb hby d7_6) rfl rfl ?_
   exact kt
  refine own_getF X221 hx hZ hown (host := "") (Or.inl (Wd64 hw)) Via.refl e221 Fs (hb hby d7_7) (fun T222 X222 e222 => ?_)
  refine ownBy (A := T222.setTop (fr_add1 m b p1 q1 14 (.val (.int (1 : Int32))) .unset [(.ref b)])) (fun t kt => ?_) ?_
  ·refine XS.ifNo X222.here hx rfl (hb hby d7_10) rfl ((if0 _ _).trans (tlt ((by decide) : (0 : Int32) < (1 : Int32))).2.2.2) ?_
   refine XS.aloadN X222.here hx rfl (hb hby d7_13) rfl rfl ?_
   exact kt
  refine own_getF X222 hx hZ hown (host := "") (Or.inl (Wd35 hw)) Via.refl e222 Fy (hb hby d7_14) (fun T223 X223 e223 => ?_)
  refine ownBy (A := T223.setTop (fr_add1 m b p1 q1 18 (.val (.int (1 : Int32))) .unset [(.ref b), (.ref y)])) (fun t kt => ?_) ?_
  ·refine XS.aloadN X223.here hx rfl (hb hby d7_17) rfl rfl ?_
   exact kt
  refine own_getF X223 hx hZ hown (host := "") (Or.inl (Wd64 hw)) Via.refl e223 Fs (hb hby d7_18) (fun T224 X224 e224 => ?_)
  refine ownBy (A := T224.setTop (fr_add1 m b p1 q1 23 (.val (.int (1 : Int32))) .unset [(.int (0 : Int32)), (.ref y)])) (fun t kt => ?_) ?_
  ·refine XS.iconst X224.here hx rfl (hb hby d7_21) ?_
   refine XS.isub X224.here hx rfl (hb hby d7_22) rfl ?_
   exact kt
  obtain ⟨cl225, Ar225, q225, S225, N225, H225, G225⟩ := id Ay
  have hin225 : ¬ ((0 : Int32) < 0 ∨ cl225.slots.size ≤ ((0 : Int32)).toNatClampNeg) := inb_of S225 ⟨by decide, by decide⟩
  have hat225 : cl225.slots[((0 : Int32)).toNatClampNeg]? = some (.int z0) := H225.at hin225 rfl
  have st225 := X224.iaload hx (j := (0 : Int32)) (v := (.int z0)) (by rw [e224]; exact Ar225.1) (State.isArrayOf_alike hZ.alike Ar225.2.1) Ar225.2.2 hin225 hat225 (g := (fr_add1 m b p1 q1 23 (.val (.int (1 : Int32))) .unset [(.int (0 : Int32)), (.ref y)])) rfl rfl (hb hby d7_23)
  refine ownBy st225 ?_
  show ownG p.tables e below _ (T224.setTop (fr_add1 m b p1 q1 24 (.val (.int (1 : Int32))) .unset [(.int z0)]))
  refine ownBy (A := T224.setTop (fr_add1 m b p1 q1 25 (.val (.int (1 : Int32))) .unset [(.int p1), (.int z0)])) (fun t kt => ?_) ?_
  ·refine XS.iloadN X224.here hx rfl (hb hby d7_24) rfl ?_
   exact kt
  by_cases hc226 : z0 < p1
  ·skip
   refine ownBy (A := T224.setTop (fr_add1 m b p1 q1 70 (.val (.int (1 : Int32))) .unset [(.ref b)])) (fun t kt => ?_) ?_
   ·refine XS.icmpYes X224.here hx rfl (pc0 := 25) (pc' := 69) rfl (hb hby d7_25) rfl (tlt hc226).1 (by decide) (by decide) ?_
    refine XS.aloadN X224.here hx rfl (hb hby d7_69) rfl rfl ?_
    exact kt
   refine own_getF X224 hx hZ hown (host := "") (Or.inl (Wd64 hw)) Via.refl e224 Fs (hb hby d7_70) (fun T227 X227 e227 => ?_)
   refine ownBy (A := T227.setTop (fr_add1 m b p1 q1 86 (.val (.int (1 : Int32))) .unset [(.ref b)])) (fun t kt => ?_) ?_
   ·refine XS.ifYes X227.here hx rfl (pc0 := 73) (pc' := 85) rfl (hb hby d7_73) rfl ((if0 _ _).trans (feq ((by decide) : ¬ ((1 : Int32) = (0 : Int32)))).2) (by decide) (by decide) ?_
    refine XS.aloadN X227.here hx rfl (hb hby d7_85) rfl rfl ?_
    exact kt
   refine own_getF X227 hx hZ hown (host := "") (Or.inl (Wd72 hw)) Via.refl e227 Fl (hb hby d7_86) (fun T228 X228 e228 => ?_)
   refine ownBy (A := T228.setTop (fr_add1 m b p1 q1 95 (.val (.int (1 : Int32))) .unset [(.ref b), (.int (1 : Int32))])) (fun t kt => ?_) ?_
   ·refine XS.ifnonnullNo X228.here hx rfl (hb hby d7_89) rfl ?_
    refine XS.iload X228.here hx rfl (hb hby d7_92) rfl ?_
    refine XS.aloadN X228.here hx rfl (hb hby d7_94) rfl rfl ?_
    exact kt
   refine own_getF X228 hx hZ hown (host := "") (Or.inl (Wd64 hw)) Via.refl e228 Fs (hb hby d7_95) (fun T229 X229 e229 => ?_)
   refine ownBy (A := T229.setTop (fr_add1 m b p1 q1 104 (.val (.int (1 : Int32))) .unset [(.ref b), (.long q1)])) (fun t kt => ?_) ?_
   ·refine XS.icmpNo X229.here hx rfl (hb hby d7_98) rfl (teq ((by decide) : (1 : Int32) = (1 : Int32))).2 ?_
    refine XS.lload X229.here hx rfl (hb hby d7_101) rfl ?_
    refine XS.aloadN X229.here hx rfl (hb hby d7_103) rfl rfl ?_
    exact kt
   refine own_getF X229 hx hZ hown (host := "") (Or.inl (Wd66 hw)) Via.refl e229 Ff (hb hby d7_104) (fun T230 X230 e230 => ?_)
   refine ownBy (A := T230.setTop (fr_add1 m b p1 q1 108 (.val (.int (1 : Int32))) .unset [(.ref b), (.long f1), (.long q1)])) (fun t kt => ?_) ?_
   ·refine XS.aloadN X230.here hx rfl (hb hby d7_107) rfl rfl ?_
    exact kt
   refine own_getF X230 hx hZ hown (host := "") (Or.inl (Wd64 hw)) Via.refl e230 Fs (hb hby d7_108) (fun T231 X231 e231 => ?_)
   refine ownBy (A := T231.setTop (fr_add1 m b p1 q1 114 (.val (.int (1 : Int32))) .unset [(.int (lcmpW q1 (f1 + (1 : Int64))))])) (fun t kt => ?_) ?_
   ·refine XS.i2l X231.here hx rfl (hb hby d7_111) rfl ?_
    refine XS.ladd X231.here hx rfl (hb hby d7_112) rfl ?_
    refine XS.lcmp X231.here hx rfl (hb hby d7_113) rfl ?_
    exact kt
   by_cases hc232 : (lcmpW q1 (f1 + (1 : Int64))) = (0 : Int32)
   ·skip
    refine ownBy (A := T231.setTop (fr_add1 m b p1 q1 162 (.val (.int (1 : Int32))) .unset [(.ref b)])) (fun t kt => ?_) ?_
    ·refine XS.ifYes X231.here hx rfl (pc0 := 114) (pc' := 161) rfl (hb hby d7_114) rfl ((if0 _ _).trans (teq hc232).1) (by decide) (by decide) ?_
     refine XS.aloadN X231.here hx rfl (hb hby d7_161) rfl rfl ?_
     exact kt
    refine own_getF X231 hx hZ hown (host := "") (Or.inl (Wd64 hw)) Via.refl e231 Fs (hb hby d7_162) (fun T233 X233 e233 => ?_)
    refine ownBy (A := T233.setTop (fr_add1 m b p1 q1 166 (.val (.int (1 : Int32))) .unset [(.ref b), (.int (1 : Int32))])) (fun t kt => ?_) ?_
    ·refine XS.aloadN X233.here hx rfl (hb hby d7_165) rfl rfl ?_
     exact kt
    refine own_getF X233 hx hZ hown (host := "") (Or.inl (Wd35 hw)) Via.refl e233 Fy (hb hby d7_166) (fun T234 X234 e234 => ?_)
    obtain ⟨cl235, Ar235, -, S235, N235, -, -⟩ := id Ay
    have st235 := X234.arraylength hx (by rw [e234]; exact Ar235.1) (State.isArrayOf_alike hZ.alike Ar235.2.1) (g := (fr_add1 m b p1 q1 169 (.val (.int (1 : Int32))) .unset [(.ref y), (.int (1 : Int32))])) rfl rfl (hb hby d7_169)
    rw [len_of S235 N235] at st235
    refine ownBy st235 ?_
    show ownG p.tables e below _ (T234.setTop (fr_add1 m b p1 q1 170 (.val (.int (1 : Int32))) .unset [(.int (8 : Int32)), (.int (1 : Int32))]))
    refine ownBy (A := T234.setTop (fr_add1 m b p1 q1 277 (.val (.int (1 : Int32))) .unset [(.ref b)])) (fun t kt => ?_) ?_
    ·refine XS.icmpYes X234.here hx rfl (pc0 := 170) (pc' := 276) rfl (hb hby d7_170) rfl (feq ((by decide) : ¬ ((1 : Int32) = (8 : Int32)))).2 (by decide) (by decide) ?_
     refine XS.aloadN X234.here hx rfl (hb hby d7_276) rfl rfl ?_
     exact kt
    refine own_getF X234 hx hZ hown (host := "") (Or.inl (Wd35 hw)) Via.refl e234 Fy (hb hby d7_277) (fun T236 X236 e236 => ?_)
    refine ownBy (A := T236.setTop (fr_add1 m b p1 q1 283 (.val (.int (1 : Int32))) .unset [(.ref b), (.int (1 : Int32)), (.ref y)])) (fun t kt => ?_) ?_
    ·refine XS.iload X236.here hx rfl (hb hby d7_280) rfl ?_
     refine XS.aloadN X236.here hx rfl (hb hby d7_282) rfl rfl ?_
     exact kt
    refine own_getF X236 hx hZ hown (host := "") (Or.inl (Wd35 hw)) Via.refl e236 Fy (hb hby d7_283) (fun T237 X237 e237 => ?_)
    refine ownBy (A := T237.setTop (fr_add1 m b p1 q1 291 (.val (.int (1 : Int32))) .unset [(.ref b), (.int (2 : Int32)), (.ref y), (.int (1 : Int32)), (.ref y)])) (fun t kt => ?_) ?_
    ·refine XS.iload X237.here hx rfl (hb hby d7_286) rfl ?_
     refine XS.iconst X237.here hx rfl (hb hby d7_288) ?_
     refine XS.iadd X237.here hx rfl (hb hby d7_289) rfl ?_
     show Steps p.tables e below (T237.setTop (fr_add1 m b p1 q1 290 (.val (.int (1 : Int32))) .unset [(.int (2 : Int32)), (.ref y), (.int (1 : Int32)), (.ref y)])) t
     refine XS.aloadN X237.here hx rfl (hb hby d7_290) rfl rfl ?_
     exact kt
    refine own_getF X237 hx hZ hown (host := "") (Or.inl (Wd64 hw)) Via.refl e237 Fs (hb hby d7_291) (fun T238 X238 e238 => ?_)
    refine ownBy (A := T238.setTop (fr_add1 m b p1 q1 297 (.val (.int (1 : Int32))) .unset [(.int (0 : Int32)), (.int (2 : Int32)), (.ref y), (.int (1 : Int32)), (.ref y)])) (fun t kt => ?_) ?_
    ·refine XS.iload X238.here hx rfl (hb hby d7_294) rfl ?_
     refine XS.isub X238.here hx rfl (hb hby d7_296) rfl ?_
     exact kt
    obtain ⟨T239, h239, L239, X239, e239, Nq239, K239, A239, st239⟩ := cpA X238 hx hZ hown (Wd68 hw) (Wd71 hw) (Wd69 hw) (Wd70 hw) e238 Ay Ay (us := []) (Or.inl ⟨rfl, rfl⟩) (sp := (1 : Int32)) (dp := (2 : Int32)) (nn := (0 : Int32)) (by decide) (by decide) (by decide) (by decide) (by decide) rfl (oLe rfl) N0 gy (g := (fr_add1 m b p1 q1 297 (.val (.int (1 : Int32))) .unset [(.int (0 : Int32)), (.int (2 : Int32)), (.ref y), (.int (1 : Int32)), (.ref y)])) rfl (by rw [hml]; rfl) rfl (hb hby d7_297) (by decide) (W := 0) (by show 2 * 0 + _ ≤ _; exact Nat.le_of_eq rfl) (by decide)
    have V240 : Arv Z h239 y ky .int (8 : Int32) [(.int z0), (.int (0 : Int32)), (.int (0 : Int32)), (.int (0 : Int32)), (.int (0 : Int32)), (.int (0 : Int32)), (.int (0 : Int32)), (.int (0 : Int32))] (.int (0 : Int32)) := A239
    refine ownBy st239 ?_
    clear st239
    show ownG p.tables e below _ (T239.setTop (fr_add1 m b p1 q1 300 (.val (.int (1 : Int32))) .unset []))
    refine ownBy (A := T239.setTop (fr_add1 m b p1 q1 301 (.val (.int (1 : Int32))) .unset [(.ref b)])) (fun t kt => ?_) ?_
    ·refine XS.aloadN X239.here hx rfl (hb hby d7_300) rfl rfl ?_
     exact kt
    have f242 := (Fh.keep K239 (ninS ne215 nin0))
    refine own_getF X239 hx hZ hown (host := "") (Or.inl (Wd39 hw)) Via.refl e239 f242 (hb hby d7_301) (fun T241 X241 e241 => ?_)
    refine ownBy (A := T241.setTop (fr_add1 m b p1 q1 307 (.val (.int (1 : Int32))) .unset [(.ref b), (.int (1 : Int32)), (.ref hh)])) (fun t kt => ?_) ?_
    ·refine XS.iload X241.here hx rfl (hb hby d7_304) rfl ?_
     refine XS.aloadN X241.here hx rfl (hb hby d7_306) rfl rfl ?_
     exact kt
    refine own_getF X241 hx hZ hown (host := "") (Or.inl (Wd39 hw)) Via.refl e241 f242 (hb hby d7_307) (fun T243 X243 e243 => ?_)
    refine ownBy (A := T243.setTop (fr_add1 m b p1 q1 315 (.val (.int (1 : Int32))) .unset [(.ref b), (.int (2 : Int32)), (.ref hh), (.int (1 : Int32)), (.ref hh)])) (fun t kt => ?_) ?_
    ·refine XS.iload X243.here hx rfl (hb hby d7_310) rfl ?_
     refine XS.iconst X243.here hx rfl (hb hby d7_312) ?_
     refine XS.iadd X243.here hx rfl (hb hby d7_313) rfl ?_
     show Steps p.tables e below (T243.setTop (fr_add1 m b p1 q1 314 (.val (.int (1 : Int32))) .unset [(.int (2 : Int32)), (.ref hh), (.int (1 : Int32)), (.ref hh)])) t
     refine XS.aloadN X243.here hx rfl (hb hby d7_314) rfl rfl ?_
     exact kt
    have f245 := (Fs.keep K239 (ninS ne215 nin0))
    refine own_getF X243 hx hZ hown (host := "") (Or.inl (Wd64 hw)) Via.refl e243 f245 (hb hby d7_315) (fun T244 X244 e244 => ?_)
    refine ownBy (A := T244.setTop (fr_add1 m b p1 q1 321 (.val (.int (1 : Int32))) .unset [(.int (0 : Int32)), (.int (2 : Int32)), (.ref hh), (.int (1 : Int32)), (.ref hh)])) (fun t kt => ?_) ?_
    ·refine XS.iload X244.here hx rfl (hb hby d7_318) rfl ?_
     refine XS.isub X244.here hx rfl (hb hby d7_320) rfl ?_
     exact kt
    have f247 := (Ah.keep K239 (ninS (Ne.symm ne218) nin0))
    obtain ⟨T246, h246, L246, X246, e246, Nq246, K246, A246, st246⟩ := cpA X244 hx hZ hown (Wd68 hw) (Wd71 hw) (Wd69 hw) (Wd70 hw) e244 f247 f247 (us := []) (Or.inr ⟨rfl, rfl, trivial⟩) (sp := (1 : Int32)) (dp := (2 : Int32)) (nn := (0 : Int32)) (by decide) (by decide) (by decide) (by decide) (by decide) rfl (oLe rfl) Nq239 gh (g := (fr_add1 m b p1 q1 321 (.val (.int (1 : Int32))) .unset [(.int (0 : Int32)), (.int (2 : Int32)), (.ref hh), (.int (1 : Int32)), (.ref hh)])) rfl (by rw [hml]; rfl) rfl (hb hby d7_321) (by decide) (W := 0) (by show 2 * 0 + _ ≤ _; exact Nat.le_of_eq rfl) (by decide)
    have V248 : Arv Z h246 hh kh (.object "java/math/BigDecimal") (8 : Int32) [.null, .null, .null, .null, .null, .null, .null, .null] .null := A246
    refine ownBy st246 ?_
    clear st246
    show ownG p.tables e below _ (T246.setTop (fr_add1 m b p1 q1 324 (.val (.int (1 : Int32))) .unset []))
    refine ownBy (A := T246.setTop (fr_add1 m b p1 q1 325 (.val (.int (1 : Int32))) .unset [(.ref b)])) (fun t kt => ?_) ?_
    ·refine XS.aloadN X246.here hx rfl (hb hby d7_324) rfl rfl ?_
     exact kt
    have f250 := ((Fy.keep K239 (ninS ne215 nin0)).keep K246 (ninS ne216 nin0))
    refine own_getF X246 hx hZ hown (host := "") (Or.inl (Wd35 hw)) Via.refl e246 f250 (hb hby d7_325) (fun T249 X249 e249 => ?_)
    refine ownBy (A := T249.setTop (fr_add1 m b p1 q1 331 (.val (.int (1 : Int32))) .unset [(.int p1), (.int (1 : Int32)), (.ref y)])) (fun t kt => ?_) ?_
    ·refine XS.iload X249.here hx rfl (hb hby d7_328) rfl ?_
     refine XS.iloadN X249.here hx rfl (hb hby d7_330) rfl ?_
     exact kt
    have f251 := (V240.keep K246 (ninS ne218 nin0))
    obtain ⟨cl252, Ar252, q252, S252, N252, H252, G252⟩ := id f251
    have hin252 : ¬ ((1 : Int32) < 0 ∨ cl252.slots.size ≤ ((1 : Int32)).toNatClampNeg) := inb_of S252 ⟨by decide, by decide⟩
    obtain ⟨T252, h252, X252, e252, W252, st252⟩ := stI X249 hx hZ e249 Ar252 (j := (1 : Int32)) hin252 (g := (fr_add1 m b p1 q1 331 (.val (.int (1 : Int32))) .unset [(.int p1), (.int (1 : Int32)), (.ref y)])) rfl rfl (hb hby d7_331)
    have V253 : Arv Z h252 y ky .int (8 : Int32) [(.int z0), (.int p1), (.int (0 : Int32)), (.int (0 : Int32)), (.int (0 : Int32)), (.int (0 : Int32)), (.int (0 : Int32)), (.int (0 : Int32))] (.int (0 : Int32)) := Arv.set Ar252 q252 S252 N252 H252 G252 rfl W252 1 rfl (oLe rfl)
    clear hin252 G252 H252 N252 S252 q252 Ar252 cl252 f251
    have N254 := Fr.snoc X252 Nq246 gy
    obtain ⟨Lh255, Xh255, Nh255⟩ := oHd 0 0 X252 N254 rfl rfl
    refine ownBy st252 ?_
    clear st252
    show ownG p.tables e below _ (T252.setTop (fr_add1 m b p1 q1 332 (.val (.int (1 : Int32))) .unset []))
    refine ownBy (A := T252.setTop (fr_add1 m b p1 q1 333 (.val (.int (1 : Int32))) .unset [(.ref b)])) (fun t kt => ?_) ?_
    ·refine XS.aloadN Xh255.here hx rfl (hb hby d7_332) rfl rfl ?_
     exact kt
    have f257 := ((f242.keep K246 (ninS ne216 nin0)).other W252 (Or.inl ne215))
    refine own_getF Xh255 hx hZ hown (host := "") (Or.inl (Wd39 hw)) Via.refl e252 f257 (hb hby d7_333) (fun T256 X256 e256 => ?_)
    refine ownBy (A := T256.setTop (fr_add1 m b p1 q1 339 (.val (.int (1 : Int32))) .unset [.null, (.int (1 : Int32)), (.ref hh)])) (fun t kt => ?_) ?_
    ·refine XS.iload X256.here hx rfl (hb hby d7_336) rfl ?_
     refine XS.aloadN X256.here hx rfl (hb hby d7_338) rfl rfl ?_
     exact kt
    have f258 := (V248.other W252 (Ne.symm ne218))
    obtain ⟨cl259, Ar259, q259, S259, N259, H259, G259⟩ := id f258
    have hin259 : ¬ ((1 : Int32) < 0 ∨ cl259.slots.size ≤ ((1 : Int32)).toNatClampNeg) := inb_of S259 ⟨by decide, by decide⟩
    obtain ⟨T259, h259, X259, e259, W259, st259⟩ := stR X256 hx hZ e256 Ar259 (j := (1 : Int32)) hin259 rfl (Or.inl rfl) (g := (fr_add1 m b p1 q1 339 (.val (.int (1 : Int32))) .unset [.null, (.int (1 : Int32)), (.ref hh)])) rfl rfl (hb hby d7_339)
    have V260 : Arv Z h259 hh kh (.object "java/math/BigDecimal") (8 : Int32) [.null, .null, .null, .null, .null, .null, .null, .null] .null := Arv.set Ar259 q259 S259 N259 H259 G259 rfl W259 1 rfl (oLe rfl)
    have N261 := Fr.snoc X259 Nh255 gh
    obtain ⟨Lh262, Xh262, Nh262⟩ := oHd 0 0 X259 N261 rfl rfl
    refine ownBy st259 ?_
    clear st259
    show ownG p.tables e below _ (T259.setTop (fr_add1 m b p1 q1 340 (.val (.int (1 : Int32))) .unset []))
    refine ownBy (A := T259.setTop (fr_add1 m b p1 q1 341 (.val (.int (1 : Int32))) .unset [(.ref b)])) (fun t kt => ?_) ?_
    ·refine XS.aloadN Xh262.here hx rfl (hb hby d7_340) rfl rfl ?_
     exact kt
    have f264 := ((((Fl.keep K239 (ninS ne215 nin0)).keep K246 (ninS ne216 nin0)).other W252 (Or.inl ne215)).other W259 (Or.inl ne216))
    refine own_getF Xh262 hx hZ hown (host := "") (Or.inl (Wd72 hw)) Via.refl e259 f264 (hb hby d7_341) (fun T263 X263 e263 => ?_)
    refine ownBy (A := T263.setTop (fr_add1 m b p1 q1 386 (.val (.int (1 : Int32))) (.val (.int (0 : Int32))) [(.ref b), (.int (0 : Int32))])) (fun t kt => ?_) ?_
    ·refine XS.ifnullYes X263.here hx rfl (pc0 := 344) (pc' := 380) rfl (hb hby d7_344) rfl (by decide) (by decide) ?_
     refine XS.iconst X263.here hx rfl (hb hby d7_380) ?_
     refine XS.istore X263.here hx rfl (hb hby d7_381) rfl (l' := #[.val (.ref b), .val (.int p1), .val .null, .val .null, .val (.long q1), .second, .val (.int (1 : Int32)), .val (.int (0 : Int32)), .unset]) rfl ?_
     show Steps p.tables e below (T263.setTop (fr_add1 m b p1 q1 383 (.val (.int (1 : Int32))) (.val (.int (0 : Int32))) [])) t
     refine XS.iload X263.here hx rfl (hb hby d7_383) rfl ?_
     refine XS.aloadN X263.here hx rfl (hb hby d7_385) rfl rfl ?_
     exact kt
    have f266 := ((((Fn.keep K239 (ninS ne215 nin0)).keep K246 (ninS ne216 nin0)).other W252 (Or.inl ne215)).other W259 (Or.inl ne216))
    refine own_getF X263 hx hZ hown (host := "") (Or.inl (Wd57 hw)) Via.refl e263 f266 (hb hby d7_386) (fun T265 X265 e265 => ?_)
    have f267 := ((((An.keep K239 (ninS (Ne.symm ne219) nin0)).keep K246 (ninS (Ne.symm ne220) nin0)).other W252 (Ne.symm ne219)).other W259 (Ne.symm ne220))
    obtain ⟨cl268, Ar268, -, S268, N268, -, -⟩ := id f267
    have st268 := X265.arraylength hx (by rw [e265]; exact Ar268.1) (State.isArrayOf_alike hZ.alike Ar268.2.1) (g := (fr_add1 m b p1 q1 389 (.val (.int (1 : Int32))) (.val (.int (0 : Int32))) [(.ref nn), (.int (0 : Int32))])) rfl rfl (hb hby d7_389)
    rw [len_of S268 N268] at st268
    refine ownBy st268 ?_
    show ownG p.tables e below _ (T265.setTop (fr_add1 m b p1 q1 390 (.val (.int (1 : Int32))) (.val (.int (0 : Int32))) [(.int (0 : Int32)), (.int (0 : Int32))]))
    refine ownBy (A := T265.setTop (fr_add1 m b p1 q1 463 (.val (.int (1 : Int32))) (.val (.int (0 : Int32))) [(.ref b), (.ref b)])) (fun t kt => ?_) ?_
    ·refine XS.icmpYes X265.here hx rfl (pc0 := 390) (pc' := 461) rfl (hb hby d7_390) rfl (flt ((by decide) : ¬ ((0 : Int32) < (0 : Int32)))).2.1 (by decide) (by decide) ?_
     refine XS.aloadN X265.here hx rfl (hb hby d7_461) rfl rfl ?_
     refine XS.dup X265.here hx rfl (hb hby d7_462) rfl rfl ?_
     exact kt
    have f270 := (((f245.keep K246 (ninS ne216 nin0)).other W252 (Or.inl ne215)).other W259 (Or.inl ne216))
    refine own_getF X265 hx hZ hown (host := "") (Or.inl (Wd64 hw)) Via.refl e265 f270 (hb hby d7_463) (fun T269 X269 e269 => ?_)
    refine ownBy (A := T269.setTop (fr_add1 m b p1 q1 468 (.val (.int (1 : Int32))) (.val (.int (0 : Int32))) [(.int (2 : Int32)), (.ref b)])) (fun t kt => ?_) ?_
    ·refine XS.iconst X269.here hx rfl (hb hby d7_466) ?_
     refine XS.iadd X269.here hx rfl (hb hby d7_467) rfl ?_
     exact kt
    have f272 := ((((E1.keep K239).keep K246).wr W252).wr W259)
    obtain ⟨T271, h271, X271, e271, W271, st271⟩ := putF X269 hx hZ hown (host := "") (Or.inl (Wd64 hw)) Via.refl e269 f270 f272 (Or.inl (Wd65 hw)) (Wd3 hw) (ty := .int) (by decide) rfl rfl (g := (fr_add1 m b p1 q1 468 (.val (.int (1 : Int32))) (.val (.int (0 : Int32))) [(.int (2 : Int32)), (.ref b)])) rfl rfl (hb hby d7_468)
    have F273 := f270.same W271
    have N274 := Fr.snoc X271 Nh262 gb
    obtain ⟨Lh275, Xh275, Nh275⟩ := oHd 0 0 X271 N274 rfl rfl
    refine ownBy st271 ?_
    clear st271
    show ownG p.tables e below _ (T271.setTop (fr_add1 m b p1 q1 471 (.val (.int (1 : Int32))) (.val (.int (0 : Int32))) []))
    have f276 := (f272.wr W271)
    have f277 := (((f250.other W252 (Or.inl ne215)).other W259 (Or.inl ne216)).other W271 (Or.inr (slot_ne (Or.inl (Wd36 hw)) (Or.inl (Wd65 hw)) (by decide) (t := (.array .int)) (t' := .int) (by decide) (by decide))))
    have f278 := ((f257.other W259 (Or.inl ne216)).other W271 (Or.inr (slot_ne (Or.inl (Wd40 hw)) (Or.inl (Wd65 hw)) (by decide) (t := (.array (.object "java/math/BigDecimal"))) (t' := .int) (by decide) (by decide))))
    have f279 := (f266.other W271 (Or.inr (slot_ne (Or.inr (Wd58 hw)) (Or.inl (Wd65 hw)) (by decide) (t := (.array (.array .long))) (t' := .int) (by decide) (by decide))))
    have f280 := (((((Ff.keep K239 (ninS ne215 nin0)).keep K246 (ninS ne216 nin0)).other W252 (Or.inl ne215)).other W259 (Or.inl ne216)).other W271 (Or.inr (slot_ne (Or.inl (Wd67 hw)) (Or.inl (Wd65 hw)) (by decide) (t := .long) (t' := .int) (by decide) (by decide))))
    have f281 := (f264.other W271 (Or.inr (slot_ne (Or.inl (Wd73 hw)) (Or.inl (Wd65 hw)) (by decide) (t := (.array .long)) (t' := .int) (by decide) (by decide))))
    have f282 := ((V253.other W259 ne218).other W271 (Ne.symm ne215))
    have f283 := (V260.other W271 (Ne.symm ne216))
    have f284 := (f267.other W271 (Ne.symm ne217))
    have f285 := (Nat.le_trans (Nat.le_trans (Nat.le_trans (Nat.le_trans (Nat.le_trans (Nat.le_refl h0.size) K239.1) K246.1) (Keep.of_wr W252).1) (Keep.of_wr W259).1) (Keep.of_wr W271).1)
    refine ownRet Xh275 Bd.notSynchronized (v := none) (fun _ => rfl) ?_ (oLe rfl) (oLe rfl) (fun fs hr => Xh275.returnOut hx Bd.returns (hb hby d7_471) hr)
    show (Q_add1 Z b y hh nn ky kh kn z0 m0 f1 lv p1 q1 h0 n0) (none) T271.heap _
    rw [e271]
    exact ⟨rfl, Nh275, f285, z0, p1, m0, q1, f1, .null, hc226, Or.inr (⟨rfl, rfl, rfl, rfl⟩), f276, f277, f278, f279, F273, f280, f281, f282, f283, f284, Or.inl ⟨rfl, hm0, (lc_eq _ _).mp ((lcW _ _).symm.trans hc232)⟩⟩
   ·skip
    refine ownBy (A := T231.setTop (fr_add1 m b p1 q1 119 (.val (.int (1 : Int32))) .unset [(.ref b), (.ref b)])) (fun t kt => ?_) ?_
    ·refine XS.ifNo X231.here hx rfl (hb hby d7_114) rfl ((if0 _ _).trans (feq hc232).1) ?_
     refine XS.aloadN X231.here hx rfl (hb hby d7_117) rfl rfl ?_
     refine XS.aloadN X231.here hx rfl (hb hby d7_118) rfl rfl ?_
     exact kt
    refine own_getF X231 hx hZ hown (host := "") (Or.inl (Wd35 hw)) Via.refl e231 Fy (hb hby d7_119) (fun T286 X286 e286 => ?_)
    obtain ⟨cl287, Ar287, -, S287, N287, -, -⟩ := id Ay
    have st287 := X286.arraylength hx (by rw [e286]; exact Ar287.1) (State.isArrayOf_alike hZ.alike Ar287.2.1) (g := (fr_add1 m b p1 q1 122 (.val (.int (1 : Int32))) .unset [(.ref y), (.ref b)])) rfl rfl (hb hby d7_122)
    rw [len_of S287 N287] at st287
    refine ownBy st287 ?_
    show ownG p.tables e below _ (T286.setTop (fr_add1 m b p1 q1 123 (.val (.int (1 : Int32))) .unset [(.int (8 : Int32)), (.ref b)]))
    obtain ⟨T288, h288, k288, X288, e288, E288, A288, st288⟩ := newP X286 hx hZ (aty := .long) (Wd56 hw) e286 (g := (fr_add1 m b p1 q1 123 (.val (.int (1 : Int32))) .unset [(.int (8 : Int32)), (.ref b)])) rfl (hb hby d7_123) rfl (by decide : ¬ ((8 : Int32) < (0 : Int32))) (cap := 8) (by decide) (by decide) (by decide) (by decide)
    obtain ⟨b288, g288⟩ : ∃ z, z = h0.size := ⟨_, rfl⟩
    rw [← g288] at A288 st288
    have ne289 : b ≠ b288 := Nat.ne_of_lt (Nat.lt_of_lt_of_le E1.lt (Nat.le_of_eq g288.symm))
    have ne290 : y ≠ b288 := Nat.ne_of_lt (Nat.lt_of_lt_of_le Ay.lt (Nat.le_of_eq g288.symm))
    have ne291 : hh ≠ b288 := Nat.ne_of_lt (Nat.lt_of_lt_of_le Ah.lt (Nat.le_of_eq g288.symm))
    have ne292 : nn ≠ b288 := Nat.ne_of_lt (Nat.lt_of_lt_of_le An.lt (Nat.le_of_eq g288.symm))
    have g293 : n0 ≤ b288 := Nat.le_trans Z0 (Nat.le_of_eq g288.symm)
    have z294 : h0.size ≤ b288 := Nat.le_trans (Nat.le_refl h0.size) (Nat.le_of_eq g288.symm)
    have V295 : Arv Z h288 b288 k288 .long (8 : Int32) [(.long (0 : Int64)), (.long (0 : Int64)), (.long (0 : Int64)), (.long (0 : Int64)), (.long (0 : Int64)), (.long (0 : Int64)), (.long (0 : Int64)), (.long (0 : Int64))] (.long (0 : Int64)) := (Arv.new A288 (by decide)).pad (pad_rep [] (.long (0 : Int64)) 8)
    refine ownBy st288 ?_
    clear st288
    show ownG p.tables e below _ (T288.setTop (fr_add1 m b p1 q1 125 (.val (.int (1 : Int32))) .unset [(.ref b288), (.ref b)]))
    have f297 := (Fl.ext E288)
    have f298 := (E1.ext E288)
    obtain ⟨T296, h296, X296, e296, W296, st296⟩ := putF X288 hx hZ hown (host := "") (Or.inl (Wd72 hw)) Via.refl e288 f297 f298 (Or.inl (Wd73 hw)) (Wd3 hw) (ty := (.array .long)) (by decide) rfl rfl (g := (fr_add1 m b p1 q1 125 (.val (.int (1 : Int32))) .unset [(.ref b288), (.ref b)])) rfl rfl (hb hby d7_125)
    have F299 := f297.same W296
    have N300 := Fr.snoc X296 N0 gb
    obtain ⟨Lh301, Xh301, Nh301⟩ := oHd 1 8 X296 N300 rfl rfl
    refine ownBy st296 ?_
    clear st296
    show ownG p.tables e below _ (T296.setTop (fr_add1 m b p1 q1 128 (.val (.int (1 : Int32))) .unset []))
    refine ownBy (A := T296.setTop (fr_add1 m b p1 q1 134 (.val (.int (1 : Int32))) (.val (.int (0 : Int32))) [(.ref b), (.int (0 : Int32))])) (fun t kt => ?_) ?_
    ·refine XS.iconst Xh301.here hx rfl (hb hby d7_128) ?_
     refine XS.istore Xh301.here hx rfl (hb hby d7_129) rfl (l' := #[.val (.ref b), .val (.int p1), .val .null, .val .null, .val (.long q1), .second, .val (.int (1 : Int32)), .val (.int (0 : Int32)), .unset]) rfl ?_
     refine XS.iload Xh301.here hx rfl (hb hby d7_131) rfl ?_
     show Steps p.tables e below (T296.setTop (fr_add1 m b p1 q1 133 (.val (.int (1 : Int32))) (.val (.int (0 : Int32))) [(.int (0 : Int32))])) t
     refine XS.aloadN Xh301.here hx rfl (hb hby d7_133) rfl rfl ?_
     exact kt
    have f303 := ((Fs.ext E288).other W296 (Or.inr (slot_ne (Or.inl (Wd65 hw)) (Or.inl (Wd73 hw)) (by decide) (t := .int) (t' := (.array .long)) (by decide) (by decide))))
    refine own_getF Xh301 hx hZ hown (host := "") (Or.inl (Wd64 hw)) Via.refl e296 f303 (hb hby d7_134) (fun T302 X302 e302 => ?_)
    refine ownBy (A := T302.setTop (fr_add1 m b p1 q1 141 (.val (.int (1 : Int32))) (.val (.int (0 : Int32))) [(.ref b)])) (fun t kt => ?_) ?_
    ·refine XS.icmpNo X302.here hx rfl (hb hby d7_137) rfl (tlt ((by decide) : (0 : Int32) < (1 : Int32))).2.1 ?_
     refine XS.aloadN X302.here hx rfl (hb hby d7_140) rfl rfl ?_
     exact kt
    refine own_getF X302 hx hZ hown (host := "") (Or.inl (Wd72 hw)) Via.refl e302 F299 (hb hby d7_141) (fun T304 X304 e304 => ?_)
    refine ownBy (A := T304.setTop (fr_add1 m b p1 q1 147 (.val (.int (1 : Int32))) (.val (.int (0 : Int32))) [(.ref b), (.int (0 : Int32)), (.ref b288)])) (fun t kt => ?_) ?_
    ·refine XS.iload X304.here hx rfl (hb hby d7_144) rfl ?_
     refine XS.aloadN X304.here hx rfl (hb hby d7_146) rfl rfl ?_
     exact kt
    have f306 := ((Ff.ext E288).other W296 (Or.inr (slot_ne (Or.inl (Wd67 hw)) (Or.inl (Wd73 hw)) (by decide) (t := .long) (t' := (.array .long)) (by decide) (by decide))))
    refine own_getF X304 hx hZ hown (host := "") (Or.inl (Wd66 hw)) Via.refl e304 f306 (hb hby d7_147) (fun T305 X305 e305 => ?_)
    refine ownBy (A := T305.setTop (fr_add1 m b p1 q1 154 (.val (.int (1 : Int32))) (.val (.int (0 : Int32))) [(.long (f1 + (0 : Int64))), (.int (0 : Int32)), (.ref b288)])) (fun t kt => ?_) ?_
    ·refine XS.iload X305.here hx rfl (hb hby d7_150) rfl ?_
     refine XS.i2l X305.here hx rfl (hb hby d7_152) rfl ?_
     refine XS.ladd X305.here hx rfl (hb hby d7_153) rfl ?_
     exact kt
    have f307 := (V295.other W296 (Ne.symm ne289))
    obtain ⟨cl308, Ar308, q308, S308, N308, H308, G308⟩ := id f307
    have hin308 : ¬ ((0 : Int32) < 0 ∨ cl308.slots.size ≤ ((0 : Int32)).toNatClampNeg) := inb_of S308 ⟨by decide, by decide⟩
    obtain ⟨T308, h308, X308, e308, W308, st308⟩ := stJ X305 hx hZ e305 Ar308 (j := (0 : Int32)) hin308 (g := (fr_add1 m b p1 q1 154 (.val (.int (1 : Int32))) (.val (.int (0 : Int32))) [(.long (f1 + (0 : Int64))), (.int (0 : Int32)), (.ref b288)])) rfl rfl (hb hby d7_154)
    have V309 : Arv Z h308 b288 k288 .long (8 : Int32) [(.long (f1 + (0 : Int64))), (.long (0 : Int64)), (.long (0 : Int64)), (.long (0 : Int64)), (.long (0 : Int64)), (.long (0 : Int64)), (.long (0 : Int64)), (.long (0 : Int64))] (.long (0 : Int64)) := Arv.set Ar308 q308 S308 N308 H308 G308 rfl W308 0 rfl (oLe rfl)
    clear hin308 G308 H308 N308 S308 q308 Ar308 cl308 f307
    have N310 := Fr.snoc X308 Nh301 g293
    obtain ⟨Lh311, Xh311, Nh311⟩ := oHd 1 8 X308 N310 rfl rfl
    refine ownBy st308 ?_
    clear st308
    show ownG p.tables e below _ (T308.setTop (fr_add1 m b p1 q1 155 (.val (.int (1 : Int32))) (.val (.int (0 : Int32))) []))
    refine ownBy (A := T308.setTop (fr_add1 m b p1 q1 134 (.val (.int (1 : Int32))) (.val (.int (1 : Int32))) [(.ref b), (.int (1 : Int32))])) (fun t kt => ?_) ?_
    ·refine XS.iinc Xh311.here hx rfl (hb hby d7_155) rfl (l' := #[.val (.ref b), .val (.int p1), .val .null, .val .null, .val (.long q1), .second, .val (.int (1 : Int32)), .val (.int (1 : Int32)), .unset]) rfl ?_
     refine XS.goto Xh311.here hx rfl (pc0 := 158) (pc' := 131) rfl (hb hby d7_158) (by decide) (by decide) ?_
     refine XS.iload Xh311.here hx rfl (hb hby d7_131) rfl ?_
     show Steps p.tables e below (T308.setTop (fr_add1 m b p1 q1 133 (.val (.int (1 : Int32))) (.val (.int (1 : Int32))) [(.int (1 : Int32))])) t
     refine XS.aloadN Xh311.here hx rfl (hb hby d7_133) rfl rfl ?_
     exact kt
    have f313 := (f303.other W308 (Or.inl ne289))
    refine own_getF Xh311 hx hZ hown (host := "") (Or.inl (Wd64 hw)) Via.refl e308 f313 (hb hby d7_134) (fun T312 X312 e312 => ?_)
    refine ownBy (A := T312.setTop (fr_add1 m b p1 q1 162 (.val (.int (1 : Int32))) (.val (.int (1 : Int32))) [(.ref b)])) (fun t kt => ?_) ?_
    ·refine XS.icmpYes X312.here hx rfl (pc0 := 137) (pc' := 161) rfl (hb hby d7_137) rfl (flt ((by decide) : ¬ ((1 : Int32) < (1 : Int32)))).2.1 (by decide) (by decide) ?_
     refine XS.aloadN X312.here hx rfl (hb hby d7_161) rfl rfl ?_
     exact kt
    refine own_getF X312 hx hZ hown (host := "") (Or.inl (Wd64 hw)) Via.refl e312 f313 (hb hby d7_162) (fun T314 X314 e314 => ?_)
    refine ownBy (A := T314.setTop (fr_add1 m b p1 q1 166 (.val (.int (1 : Int32))) (.val (.int (1 : Int32))) [(.ref b), (.int (1 : Int32))])) (fun t kt => ?_) ?_
    ·refine XS.aloadN X314.here hx rfl (hb hby d7_165) rfl rfl ?_
     exact kt
    have f316 := (((Fy.ext E288).other W296 (Or.inr (slot_ne (Or.inl (Wd36 hw)) (Or.inl (Wd73 hw)) (by decide) (t := (.array .int)) (t' := (.array .long)) (by decide) (by decide)))).other W308 (Or.inl ne289))
    refine own_getF X314 hx hZ hown (host := "") (Or.inl (Wd35 hw)) Via.refl e314 f316 (hb hby d7_166) (fun T315 X315 e315 => ?_)
    have f317 := (((Ay.ext E288).other W296 (Ne.symm ne215)).other W308 ne290)
    obtain ⟨cl318, Ar318, -, S318, N318, -, -⟩ := id f317
    have st318 := X315.arraylength hx (by rw [e315]; exact Ar318.1) (State.isArrayOf_alike hZ.alike Ar318.2.1) (g := (fr_add1 m b p1 q1 169 (.val (.int (1 : Int32))) (.val (.int (1 : Int32))) [(.ref y), (.int (1 : Int32))])) rfl rfl (hb hby d7_169)
    rw [len_of S318 N318] at st318
    refine ownBy st318 ?_
    show ownG p.tables e below _ (T315.setTop (fr_add1 m b p1 q1 170 (.val (.int (1 : Int32))) (.val (.int (1 : Int32))) [(.int (8 : Int32)), (.int (1 : Int32))]))
    refine ownBy (A := T315.setTop (fr_add1 m b p1 q1 277 (.val (.int (1 : Int32))) (.val (.int (1 : Int32))) [(.ref b)])) (fun t kt => ?_) ?_
    ·refine XS.icmpYes X315.here hx rfl (pc0 := 170) (pc' := 276) rfl (hb hby d7_170) rfl (feq ((by decide) : ¬ ((1 : Int32) = (8 : Int32)))).2 (by decide) (by decide) ?_
     refine XS.aloadN X315.here hx rfl (hb hby d7_276) rfl rfl ?_
     exact kt
    refine own_getF X315 hx hZ hown (host := "") (Or.inl (Wd35 hw)) Via.refl e315 f316 (hb hby d7_277) (fun T319 X319 e319 => ?_)
    refine ownBy (A := T319.setTop (fr_add1 m b p1 q1 283 (.val (.int (1 : Int32))) (.val (.int (1 : Int32))) [(.ref b), (.int (1 : Int32)), (.ref y)])) (fun t kt => ?_) ?_
    ·refine XS.iload X319.here hx rfl (hb hby d7_280) rfl ?_
     refine XS.aloadN X319.here hx rfl (hb hby d7_282) rfl rfl ?_
     exact kt
    refine own_getF X319 hx hZ hown (host := "") (Or.inl (Wd35 hw)) Via.refl e319 f316 (hb hby d7_283) (fun T320 X320 e320 => ?_)
    refine ownBy (A := T320.setTop (fr_add1 m b p1 q1 291 (.val (.int (1 : Int32))) (.val (.int (1 : Int32))) [(.ref b), (.int (2 : Int32)), (.ref y), (.int (1 : Int32)), (.ref y)])) (fun t kt => ?_) ?_
    ·refine XS.iload X320.here hx rfl (hb hby d7_286) rfl ?_
     refine XS.iconst X320.here hx rfl (hb hby d7_288) ?_
     refine XS.iadd X320.here hx rfl (hb hby d7_289) rfl ?_
     show Steps p.tables e below (T320.setTop (fr_add1 m b p1 q1 290 (.val (.int (1 : Int32))) (.val (.int (1 : Int32))) [(.int (2 : Int32)), (.ref y), (.int (1 : Int32)), (.ref y)])) t
     refine XS.aloadN X320.here hx rfl (hb hby d7_290) rfl rfl ?_
     exact kt
    refine own_getF X320 hx hZ hown (host := "") (Or.inl (Wd64 hw)) Via.refl e320 f313 (hb hby d7_291) (fun T321 X321 e321 => ?_)
    refine ownBy (A := T321.setTop (fr_add1 m b p1 q1 297 (.val (.int (1 : Int32))) (.val (.int (1 : Int32))) [(.int (0 : Int32)), (.int (2 : Int32)), (.ref y), (.int (1 : Int32)), (.ref y)])) (fun t kt => ?_) ?_
    ·refine XS.iload X321.here hx rfl (hb hby d7_294) rfl ?_
     refine XS.isub X321.here hx rfl (hb hby d7_296) rfl ?_
     exact kt
    obtain ⟨T322, h322, L322, X322, e322, Nq322, K322, A322, st322⟩ := cpA X321 hx hZ hown (Wd68 hw) (Wd71 hw) (Wd69 hw) (Wd70 hw) e321 f317 f317 (us := []) (Or.inl ⟨rfl, rfl⟩) (sp := (1 : Int32)) (dp := (2 : Int32)) (nn := (0 : Int32)) (by decide) (by decide) (by decide) (by decide) (by decide) rfl (oLe rfl) Nh311 gy (g := (fr_add1 m b p1 q1 297 (.val (.int (1 : Int32))) (.val (.int (1 : Int32))) [(.int (0 : Int32)), (.int (2 : Int32)), (.ref y), (.int (1 : Int32)), (.ref y)])) rfl (by rw [hml]; rfl) rfl (hb hby d7_297) (by decide) (W := 0) (by show 2 * 0 + _ ≤ _; exact Nat.le_of_eq rfl) (by decide)
    have V323 : Arv Z h322 y ky .int (8 : Int32) [(.int z0), (.int (0 : Int32)), (.int (0 : Int32)), (.int (0 : Int32)), (.int (0 : Int32)), (.int (0 : Int32)), (.int (0 : Int32)), (.int (0 : Int32))] (.int (0 : Int32)) := A322
    refine ownBy st322 ?_
    clear st322
    show ownG p.tables e below _ (T322.setTop (fr_add1 m b p1 q1 300 (.val (.int (1 : Int32))) (.val (.int (1 : Int32))) []))
    refine ownBy (A := T322.setTop (fr_add1 m b p1 q1 301 (.val (.int (1 : Int32))) (.val (.int (1 : Int32))) [(.ref b)])) (fun t kt => ?_) ?_
    ·refine XS.aloadN X322.here hx rfl (hb hby d7_300) rfl rfl ?_
     exact kt
    have f325 := ((((Fh.ext E288).other W296 (Or.inr (slot_ne (Or.inl (Wd40 hw)) (Or.inl (Wd73 hw)) (by decide) (t := (.array (.object "java/math/BigDecimal"))) (t' := (.array .long)) (by decide) (by decide)))).other W308 (Or.inl ne289)).keep K322 (ninS ne215 nin0))
    refine own_getF X322 hx hZ hown (host := "") (Or.inl (Wd39 hw)) Via.refl e322 f325 (hb hby d7_301) (fun T324 X324 e324 => ?_)
    refine ownBy (A := T324.setTop (fr_add1 m b p1 q1 307 (.val (.int (1 : Int32))) (.val (.int (1 : Int32))) [(.ref b), (.int (1 : Int32)), (.ref hh)])) (fun t kt => ?_) ?_
    ·refine XS.iload X324.here hx rfl (hb hby d7_304) rfl ?_
     refine XS.aloadN X324.here hx rfl (hb hby d7_306) rfl rfl ?_
     exact kt
    refine own_getF X324 hx hZ hown (host := "") (Or.inl (Wd39 hw)) Via.refl e324 f325 (hb hby d7_307) (fun T326 X326 e326 => ?_)
    refine ownBy (A := T326.setTop (fr_add1 m b p1 q1 315 (.val (.int (1 : Int32))) (.val (.int (1 : Int32))) [(.ref b), (.int (2 : Int32)), (.ref hh), (.int (1 : Int32)), (.ref hh)])) (fun t kt => ?_) ?_
    ·refine XS.iload X326.here hx rfl (hb hby d7_310) rfl ?_
     refine XS.iconst X326.here hx rfl (hb hby d7_312) ?_
     refine XS.iadd X326.here hx rfl (hb hby d7_313) rfl ?_
     show Steps p.tables e below (T326.setTop (fr_add1 m b p1 q1 314 (.val (.int (1 : Int32))) (.val (.int (1 : Int32))) [(.int (2 : Int32)), (.ref hh), (.int (1 : Int32)), (.ref hh)])) t
     refine XS.aloadN X326.here hx rfl (hb hby d7_314) rfl rfl ?_
     exact kt
    have f328 := (f313.keep K322 (ninS ne215 nin0))
    refine own_getF X326 hx hZ hown (host := "") (Or.inl (Wd64 hw)) Via.refl e326 f328 (hb hby d7_315) (fun T327 X327 e327 => ?_)
    refine ownBy (A := T327.setTop (fr_add1 m b p1 q1 321 (.val (.int (1 : Int32))) (.val (.int (1 : Int32))) [(.int (0 : Int32)), (.int (2 : Int32)), (.ref hh), (.int (1 : Int32)), (.ref hh)])) (fun t kt => ?_) ?_
    ·refine XS.iload X327.here hx rfl (hb hby d7_318) rfl ?_
     refine XS.isub X327.here hx rfl (hb hby d7_320) rfl ?_
     exact kt
    have f330 := ((((Ah.ext E288).other W296 (Ne.symm ne216)).other W308 ne291).keep K322 (ninS (Ne.symm ne218) nin0))
    obtain ⟨T329, h329, L329, X329, e329, Nq329, K329, A329, st329⟩ := cpA X327 hx hZ hown (Wd68 hw) (Wd71 hw) (Wd69 hw) (Wd70 hw) e327 f330 f330 (us := []) (Or.inr ⟨rfl, rfl, trivial⟩) (sp := (1 : Int32)) (dp := (2 : Int32)) (nn := (0 : Int32)) (by decide) (by decide) (by decide) (by decide) (by decide) rfl (oLe rfl) Nq322 gh (g := (fr_add1 m b p1 q1 321 (.val (.int (1 : Int32))) (.val (.int (1 : Int32))) [(.int (0 : Int32)), (.int (2 : Int32)), (.ref hh), (.int (1 : Int32)), (.ref hh)])) rfl (by rw [hml]; rfl) rfl (hb hby d7_321) (by decide) (W := 0) (by show 2 * 0 + _ ≤ _; exact Nat.le_of_eq rfl) (by decide)
    have V331 : Arv Z h329 hh kh (.object "java/math/BigDecimal") (8 : Int32) [.null, .null, .null, .null, .null, .null, .null, .null] .null := A329
    refine ownBy st329 ?_
    clear st329
    show ownG p.tables e below _ (T329.setTop (fr_add1 m b p1 q1 324 (.val (.int (1 : Int32))) (.val (.int (1 : Int32))) []))
    refine ownBy (A := T329.setTop (fr_add1 m b p1 q1 325 (.val (.int (1 : Int32))) (.val (.int (1 : Int32))) [(.ref b)])) (fun t kt => ?_) ?_
    ·refine XS.aloadN X329.here hx rfl (hb hby d7_324) rfl rfl ?_
     exact kt
    have f333 := ((f316.keep K322 (ninS ne215 nin0)).keep K329 (ninS ne216 nin0))
    refine own_getF X329 hx hZ hown (host := "") (Or.inl (Wd35 hw)) Via.refl e329 f333 (hb hby d7_325) (fun T332 X332 e332 => ?_)
    refine ownBy (A := T332.setTop (fr_add1 m b p1 q1 331 (.val (.int (1 : Int32))) (.val (.int (1 : Int32))) [(.int p1), (.int (1 : Int32)), (.ref y)])) (fun t kt => ?_) ?_
    ·refine XS.iload X332.here hx rfl (hb hby d7_328) rfl ?_
     refine XS.iloadN X332.here hx rfl (hb hby d7_330) rfl ?_
     exact kt
    have f334 := (V323.keep K329 (ninS ne218 nin0))
    obtain ⟨cl335, Ar335, q335, S335, N335, H335, G335⟩ := id f334
    have hin335 : ¬ ((1 : Int32) < 0 ∨ cl335.slots.size ≤ ((1 : Int32)).toNatClampNeg) := inb_of S335 ⟨by decide, by decide⟩
    obtain ⟨T335, h335, X335, e335, W335, st335⟩ := stI X332 hx hZ e332 Ar335 (j := (1 : Int32)) hin335 (g := (fr_add1 m b p1 q1 331 (.val (.int (1 : Int32))) (.val (.int (1 : Int32))) [(.int p1), (.int (1 : Int32)), (.ref y)])) rfl rfl (hb hby d7_331)
    have V336 : Arv Z h335 y ky .int (8 : Int32) [(.int z0), (.int p1), (.int (0 : Int32)), (.int (0 : Int32)), (.int (0 : Int32)), (.int (0 : Int32)), (.int (0 : Int32)), (.int (0 : Int32))] (.int (0 : Int32)) := Arv.set Ar335 q335 S335 N335 H335 G335 rfl W335 1 rfl (oLe rfl)
    clear hin335 G335 H335 N335 S335 q335 Ar335 cl335 f334
    have N337 := Fr.snoc X335 Nq329 gy
    obtain ⟨Lh338, Xh338, Nh338⟩ := oHd 1 8 X335 N337 rfl rfl
    refine ownBy st335 ?_
    clear st335
    show ownG p.tables e below _ (T335.setTop (fr_add1 m b p1 q1 332 (.val (.int (1 : Int32))) (.val (.int (1 : Int32))) []))
    refine ownBy (A := T335.setTop (fr_add1 m b p1 q1 333 (.val (.int (1 : Int32))) (.val (.int (1 : Int32))) [(.ref b)])) (fun t kt => ?_) ?_
    ·refine XS.aloadN Xh338.here hx rfl (hb hby d7_332) rfl rfl ?_
     exact kt
    have f340 := ((f325.keep K329 (ninS ne216 nin0)).other W335 (Or.inl ne215))
    refine own_getF Xh338 hx hZ hown (host := "") (Or.inl (Wd39 hw)) Via.refl e335 f340 (hb hby d7_333) (fun T339 X339 e339 => ?_)
    refine ownBy (A := T339.setTop (fr_add1 m b p1 q1 339 (.val (.int (1 : Int32))) (.val (.int (1 : Int32))) [.null, (.int (1 : Int32)), (.ref hh)])) (fun t kt => ?_) ?_
    ·refine XS.iload X339.here hx rfl (hb hby d7_336) rfl ?_
     refine XS.aloadN X339.here hx rfl (hb hby d7_338) rfl rfl ?_
     exact kt
    have f341 := (V331.other W335 (Ne.symm ne218))
    obtain ⟨cl342, Ar342, q342, S342, N342, H342, G342⟩ := id f341
    have hin342 : ¬ ((1 : Int32) < 0 ∨ cl342.slots.size ≤ ((1 : Int32)).toNatClampNeg) := inb_of S342 ⟨by decide, by decide⟩
    obtain ⟨T342, h342, X342, e342, W342, st342⟩ := stR X339 hx hZ e339 Ar342 (j := (1 : Int32)) hin342 rfl (Or.inl rfl) (g := (fr_add1 m b p1 q1 339 (.val (.int (1 : Int32))) (.val (.int (1 : Int32))) [.null, (.int (1 : Int32)), (.ref hh)])) rfl rfl (hb hby d7_339)
    have V343 : Arv Z h342 hh kh (.object "java/math/BigDecimal") (8 : Int32) [.null, .null, .null, .null, .null, .null, .null, .null] .null := Arv.set Ar342 q342 S342 N342 H342 G342 rfl W342 1 rfl (oLe rfl)
    have N344 := Fr.snoc X342 Nh338 gh
    obtain ⟨Lh345, Xh345, Nh345⟩ := oHd 1 8 X342 N344 rfl rfl
    refine ownBy st342 ?_
    clear st342
    show ownG p.tables e below _ (T342.setTop (fr_add1 m b p1 q1 340 (.val (.int (1 : Int32))) (.val (.int (1 : Int32))) []))
    refine ownBy (A := T342.setTop (fr_add1 m b p1 q1 341 (.val (.int (1 : Int32))) (.val (.int (1 : Int32))) [(.ref b)])) (fun t kt => ?_) ?_
    ·refine XS.aloadN Xh345.here hx rfl (hb hby d7_340) rfl rfl ?_
     exact kt
    have f347 := (((((F299.other W308 (Or.inl ne289)).keep K322 (ninS ne215 nin0)).keep K329 (ninS ne216 nin0)).other W335 (Or.inl ne215)).other W342 (Or.inl ne216))
    refine own_getF Xh345 hx hZ hown (host := "") (Or.inl (Wd72 hw)) Via.refl e342 f347 (hb hby d7_341) (fun T346 X346 e346 => ?_)
    refine ownBy (A := T346.setTop (fr_add1 m b p1 q1 348 (.val (.int (1 : Int32))) (.val (.int (1 : Int32))) [(.ref b)])) (fun t kt => ?_) ?_
    ·refine XS.ifnullNo X346.here hx rfl (hb hby d7_344) rfl ?_
     refine XS.aloadN X346.here hx rfl (hb hby d7_347) rfl rfl ?_
     exact kt
    refine own_getF X346 hx hZ hown (host := "") (Or.inl (Wd72 hw)) Via.refl e346 f347 (hb hby d7_348) (fun T348 X348 e348 => ?_)
    refine ownBy (A := T348.setTop (fr_add1 m b p1 q1 354 (.val (.int (1 : Int32))) (.val (.int (1 : Int32))) [(.ref b), (.int (1 : Int32)), (.ref b288)])) (fun t kt => ?_) ?_
    ·refine XS.iload X348.here hx rfl (hb hby d7_351) rfl ?_
     refine XS.aloadN X348.here hx rfl (hb hby d7_353) rfl rfl ?_
     exact kt
    refine own_getF X348 hx hZ hown (host := "") (Or.inl (Wd72 hw)) Via.refl e348 f347 (hb hby d7_354) (fun T349 X349 e349 => ?_)
    refine ownBy (A := T349.setTop (fr_add1 m b p1 q1 362 (.val (.int (1 : Int32))) (.val (.int (1 : Int32))) [(.ref b), (.int (2 : Int32)), (.ref b288), (.int (1 : Int32)), (.ref b288)])) (fun t kt => ?_) ?_
    ·refine XS.iload X349.here hx rfl (hb hby d7_357) rfl ?_
     refine XS.iconst X349.here hx rfl (hb hby d7_359) ?_
     refine XS.iadd X349.here hx rfl (hb hby d7_360) rfl ?_
     show Steps p.tables e below (T349.setTop (fr_add1 m b p1 q1 361 (.val (.int (1 : Int32))) (.val (.int (1 : Int32))) [(.int (2 : Int32)), (.ref b288), (.int (1 : Int32)), (.ref b288)])) t
     refine XS.aloadN X349.here hx rfl (hb hby d7_361) rfl rfl ?_
     exact kt
    have f351 := (((f328.keep K329 (ninS ne216 nin0)).other W335 (Or.inl ne215)).other W342 (Or.inl ne216))
    refine own_getF X349 hx hZ hown (host := "") (Or.inl (Wd64 hw)) Via.refl e349 f351 (hb hby d7_362) (fun T350 X350 e350 => ?_)
    refine ownBy (A := T350.setTop (fr_add1 m b p1 q1 368 (.val (.int (1 : Int32))) (.val (.int (1 : Int32))) [(.int (0 : Int32)), (.int (2 : Int32)), (.ref b288), (.int (1 : Int32)), (.ref b288)])) (fun t kt => ?_) ?_
    ·refine XS.iload X350.here hx rfl (hb hby d7_365) rfl ?_
     refine XS.isub X350.here hx rfl (hb hby d7_367) rfl ?_
     exact kt
    have f353 := ((((V309.keep K322 (ninS (Ne.symm ne290) nin0)).keep K329 (ninS (Ne.symm ne291) nin0)).other W335 (Ne.symm ne290)).other W342 (Ne.symm ne291))
    obtain ⟨T352, h352, L352, X352, e352, Nq352, K352, A352, st352⟩ := cpA X350 hx hZ hown (Wd68 hw) (Wd71 hw) (Wd69 hw) (Wd70 hw) e350 f353 f353 (us := []) (Or.inl ⟨rfl, rfl⟩) (sp := (1 : Int32)) (dp := (2 : Int32)) (nn := (0 : Int32)) (by decide) (by decide) (by decide) (by decide) (by decide) rfl (oLe rfl) Nh345 g293 (g := (fr_add1 m b p1 q1 368 (.val (.int (1 : Int32))) (.val (.int (1 : Int32))) [(.int (0 : Int32)), (.int (2 : Int32)), (.ref b288), (.int (1 : Int32)), (.ref b288)])) rfl (by rw [hml]; rfl) rfl (hb hby d7_368) (by decide) (W := 0) (by show 2 * 0 + _ ≤ _; exact Nat.le_of_eq rfl) (by decide)
    have V354 : Arv Z h352 b288 k288 .long (8 : Int32) [(.long (f1 + (0 : Int64))), (.long (0 : Int64)), (.long (0 : Int64)), (.long (0 : Int64)), (.long (0 : Int64)), (.long (0 : Int64)), (.long (0 : Int64)), (.long (0 : Int64))] (.long (0 : Int64)) := A352
    refine ownBy st352 ?_
    clear st352
    show ownG p.tables e below _ (T352.setTop (fr_add1 m b p1 q1 371 (.val (.int (1 : Int32))) (.val (.int (1 : Int32))) []))
    refine ownBy (A := T352.setTop (fr_add1 m b p1 q1 372 (.val (.int (1 : Int32))) (.val (.int (1 : Int32))) [(.ref b)])) (fun t kt => ?_) ?_
    ·refine XS.aloadN X352.here hx rfl (hb hby d7_371) rfl rfl ?_
     exact kt
    have f356 := (f347.keep K352 (ninS ne289 nin0))
    refine own_getF X352 hx hZ hown (host := "") (Or.inl (Wd72 hw)) Via.refl e352 f356 (hb hby d7_372) (fun T355 X355 e355 => ?_)
    refine ownBy (A := T355.setTop (fr_add1 m b p1 q1 379 (.val (.int (1 : Int32))) (.val (.int (1 : Int32))) [(.long q1), (.int (1 : Int32)), (.ref b288)])) (fun t kt => ?_) ?_
    ·refine XS.iload X355.here hx rfl (hb hby d7_375) rfl ?_
     refine XS.lload X355.here hx rfl (hb hby d7_377) rfl ?_
     exact kt
    obtain ⟨cl357, Ar357, q357, S357, N357, H357, G357⟩ := id V354
    have hin357 : ¬ ((1 : Int32) < 0 ∨ cl357.slots.size ≤ ((1 : Int32)).toNatClampNeg) := inb_of S357 ⟨by decide, by decide⟩
    obtain ⟨T357, h357, X357, e357, W357, st357⟩ := stJ X355 hx hZ e355 Ar357 (j := (1 : Int32)) hin357 (g := (fr_add1 m b p1 q1 379 (.val (.int (1 : Int32))) (.val (.int (1 : Int32))) [(.long q1), (.int (1 : Int32)), (.ref b288)])) rfl rfl (hb hby d7_379)
    have V358 : Arv Z h357 b288 k288 .long (8 : Int32) [(.long (f1 + (0 : Int64))), (.long q1), (.long (0 : Int64)), (.long (0 : Int64)), (.long (0 : Int64)), (.long (0 : Int64)), (.long (0 : Int64)), (.long (0 : Int64))] (.long (0 : Int64)) := Arv.set Ar357 q357 S357 N357 H357 G357 rfl W357 1 rfl (oLe rfl)
    clear hin357 G357 H357 N357 S357 q357 Ar357 cl357 V354
    have N359 := Fr.snoc X357 Nq352 g293
    obtain ⟨Lh360, Xh360, Nh360⟩ := oHd 1 8 X357 N359 rfl rfl
    refine ownBy st357 ?_
    clear st357
    show ownG p.tables e below _ (T357.setTop (fr_add1 m b p1 q1 380 (.val (.int (1 : Int32))) (.val (.int (1 : Int32))) []))
    refine ownBy (A := T357.setTop (fr_add1 m b p1 q1 386 (.val (.int (1 : Int32))) (.val (.int (0 : Int32))) [(.ref b), (.int (0 : Int32))])) (fun t kt => ?_) ?_
    ·refine XS.iconst Xh360.here hx rfl (hb hby d7_380) ?_
     refine XS.istore Xh360.here hx rfl (hb hby d7_381) rfl (l' := #[.val (.ref b), .val (.int p1), .val .null, .val .null, .val (.long q1), .second, .val (.int (1 : Int32)), .val (.int (0 : Int32)), .unset]) rfl ?_
     refine XS.iload Xh360.here hx rfl (hb hby d7_383) rfl ?_
     show Steps p.tables e below (T357.setTop (fr_add1 m b p1 q1 385 (.val (.int (1 : Int32))) (.val (.int (0 : Int32))) [(.int (0 : Int32))])) t
     refine XS.aloadN Xh360.here hx rfl (hb hby d7_385) rfl rfl ?_
     exact kt
    have f362 := (((((((((Fn.ext E288).other W296 (Or.inr (slot_ne (Or.inr (Wd58 hw)) (Or.inl (Wd73 hw)) (by decide) (t := (.array (.array .long))) (t' := (.array .long)) (by decide) (by decide)))).other W308 (Or.inl ne289)).keep K322 (ninS ne215 nin0)).keep K329 (ninS ne216 nin0)).other W335 (Or.inl ne215)).other W342 (Or.inl ne216)).keep K352 (ninS ne289 nin0)).other W357 (Or.inl ne289))
    refine own_getF Xh360 hx hZ hown (host := "") (Or.inl (Wd57 hw)) Via.refl e357 f362 (hb hby d7_386) (fun T361 X361 e361 => ?_)
    have f363 := (((((((((An.ext E288).other W296 (Ne.symm ne217)).other W308 ne292).keep K322 (ninS (Ne.symm ne219) nin0)).keep K329 (ninS (Ne.symm ne220) nin0)).other W335 (Ne.symm ne219)).other W342 (Ne.symm ne220)).keep K352 (ninS ne292 nin0)).other W357 ne292)
    obtain ⟨cl364, Ar364, -, S364, N364, -, -⟩ := id f363
    have st364 := X361.arraylength hx (by rw [e361]; exact Ar364.1) (State.isArrayOf_alike hZ.alike Ar364.2.1) (g := (fr_add1 m b p1 q1 389 (.val (.int (1 : Int32))) (.val (.int (0 : Int32))) [(.ref nn), (.int (0 : Int32))])) rfl rfl (hb hby d7_389)
    rw [len_of S364 N364] at st364
    refine ownBy st364 ?_
    show ownG p.tables e below _ (T361.setTop (fr_add1 m b p1 q1 390 (.val (.int (1 : Int32))) (.val (.int (0 : Int32))) [(.int (0 : Int32)), (.int (0 : Int32))]))
    refine ownBy (A := T361.setTop (fr_add1 m b p1 q1 463 (.val (.int (1 : Int32))) (.val (.int (0 : Int32))) [(.ref b), (.ref b)])) (fun t kt => ?_) ?_
    ·refine XS.icmpYes X361.here hx rfl (pc0 := 390) (pc' := 461) rfl (hb hby d7_390) rfl (flt ((by decide) : ¬ ((0 : Int32) < (0 : Int32)))).2.1 (by decide) (by decide) ?_
     refine XS.aloadN X361.here hx rfl (hb hby d7_461) rfl rfl ?_
     refine XS.dup X361.here hx rfl (hb hby d7_462) rfl rfl ?_
     exact kt
    have f366 := ((f351.keep K352 (ninS ne289 nin0)).other W357 (Or.inl ne289))
    refine own_getF X361 hx hZ hown (host := "") (Or.inl (Wd64 hw)) Via.refl e361 f366 (hb hby d7_463) (fun T365 X365 e365 => ?_)
    refine ownBy (A := T365.setTop (fr_add1 m b p1 q1 468 (.val (.int (1 : Int32))) (.val (.int (0 : Int32))) [(.int (2 : Int32)), (.ref b)])) (fun t kt => ?_) ?_
    ·refine XS.iconst X365.here hx rfl (hb hby d7_466) ?_
     refine XS.iadd X365.here hx rfl (hb hby d7_467) rfl ?_
     exact kt
    have f368 := ((((((((f298.wr W296).wr W308).keep K322).keep K329).wr W335).wr W342).keep K352).wr W357)
    obtain ⟨T367, h367, X367, e367, W367, st367⟩ := putF X365 hx hZ hown (host := "") (Or.inl (Wd64 hw)) Via.refl e365 f366 f368 (Or.inl (Wd65 hw)) (Wd3 hw) (ty := .int) (by decide) rfl rfl (g := (fr_add1 m b p1 q1 468 (.val (.int (1 : Int32))) (.val (.int (0 : Int32))) [(.int (2 : Int32)), (.ref b)])) rfl rfl (hb hby d7_468)
    have F369 := f366.same W367
    have N370 := Fr.snoc X367 Nh360 gb
    obtain ⟨Lh371, Xh371, Nh371⟩ := oHd 1 8 X367 N370 rfl rfl
    refine ownBy st367 ?_
    clear st367
    show ownG p.tables e below _ (T367.setTop (fr_add1 m b p1 q1 471 (.val (.int (1 : Int32))) (.val (.int (0 : Int32))) []))
    have f372 := (V358.other W367 (Ne.symm ne289))
    have f374 := (f368.wr W367)
    have f375 := (((((f333.other W335 (Or.inl ne215)).other W342 (Or.inl ne216)).keep K352 (ninS ne289 nin0)).other W357 (Or.inl ne289)).other W367 (Or.inr (slot_ne (Or.inl (Wd36 hw)) (Or.inl (Wd65 hw)) (by decide) (t := (.array .int)) (t' := .int) (by decide) (by decide))))
    have f376 := ((((f340.other W342 (Or.inl ne216)).keep K352 (ninS ne289 nin0)).other W357 (Or.inl ne289)).other W367 (Or.inr (slot_ne (Or.inl (Wd40 hw)) (Or.inl (Wd65 hw)) (by decide) (t := (.array (.object "java/math/BigDecimal"))) (t' := .int) (by decide) (by decide))))
    have f377 := (f362.other W367 (Or.inr (slot_ne (Or.inr (Wd58 hw)) (Or.inl (Wd65 hw)) (by decide) (t := (.array (.array .long))) (t' := .int) (by decide) (by decide))))
    have f378 := ((((((((f306.other W308 (Or.inl ne289)).keep K322 (ninS ne215 nin0)).keep K329 (ninS ne216 nin0)).other W335 (Or.inl ne215)).other W342 (Or.inl ne216)).keep K352 (ninS ne289 nin0)).other W357 (Or.inl ne289)).other W367 (Or.inr (slot_ne (Or.inl (Wd67 hw)) (Or.inl (Wd65 hw)) (by decide) (t := .long) (t' := .int) (by decide) (by decide))))
    have f379 := ((f356.other W357 (Or.inl ne289)).other W367 (Or.inr (slot_ne (Or.inl (Wd73 hw)) (Or.inl (Wd65 hw)) (by decide) (t := (.array .long)) (t' := .int) (by decide) (by decide))))
    have f380 := ((((V336.other W342 ne218).keep K352 (ninS ne290 nin0)).other W357 ne290).other W367 (Ne.symm ne215))
    have f381 := (((V343.keep K352 (ninS ne291 nin0)).other W357 ne291).other W367 (Ne.symm ne216))
    have f382 := (f363.other W367 (Ne.symm ne217))
    have f383 := (Nat.le_trans (Nat.le_trans (Nat.le_trans (Nat.le_trans (Nat.le_trans (Nat.le_trans (Nat.le_trans (Nat.le_trans (Nat.le_trans (Nat.le_trans (Nat.le_refl h0.size) E288.1) (Keep.of_wr W296).1) (Keep.of_wr W308).1) K322.1) K329.1) (Keep.of_wr W335).1) (Keep.of_wr W342).1) K352.1) (Keep.of_wr W357).1) (Keep.of_wr W367).1)
    refine ownRet Xh371 Bd.notSynchronized (v := none) (fun _ => rfl) ?_ (oLe rfl) (oLe rfl) (fun fs hr => Xh371.returnOut hx Bd.returns (hb hby d7_471) hr)
    show (Q_add1 Z b y hh nn ky kh kn z0 m0 f1 lv p1 q1 h0 n0) (none) T367.heap _
    rw [e367]
    have V373 := f372
    rw [← hm0] at V373
    exact ⟨rfl, Nh371, f383, z0, p1, m0, q1, f1, (.ref b288), hc226, Or.inr (⟨rfl, rfl, rfl, rfl⟩), f374, f375, f376, f377, F369, f378, f379, f380, f381, f382, Or.inr ⟨b288, k288, rfl, g293, V373⟩⟩
  ·skip
   refine ownBy (A := T224.setTop (fr_add1 m b p1 q1 29 (.val (.int (1 : Int32))) .unset [(.ref b)])) (fun t kt => ?_) ?_
   ·refine XS.icmpNo X224.here hx rfl (hb hby d7_25) rfl (flt hc226).1 ?_
    refine XS.aloadN X224.here hx rfl (hb hby d7_28) rfl rfl ?_
    exact kt
   refine own_getF X224 hx hZ hown (host := "") (Or.inl (Wd35 hw)) Via.refl e224 Fy (hb hby d7_29) (fun T384 X384 e384 => ?_)
   refine ownBy (A := T384.setTop (fr_add1 m b p1 q1 34 (.val (.int (1 : Int32))) .unset [(.ref b), (.int (0 : Int32)), (.ref y)])) (fun t kt => ?_) ?_
   ·refine XS.iconst X384.here hx rfl (hb hby d7_32) ?_
    refine XS.aloadN X384.here hx rfl (hb hby d7_33) rfl rfl ?_
    exact kt
   refine own_getF X384 hx hZ hown (host := "") (Or.inl (Wd64 hw)) Via.refl e384 Fs (hb hby d7_34) (fun T385 X385 e385 => ?_)
   refine ownBy (A := T385.setTop (fr_add1 m b p1 q1 38 (.val (.int (1 : Int32))) .unset [(.int p1), (.int (1 : Int32)), (.int (0 : Int32)), (.ref y)])) (fun t kt => ?_) ?_
   ·refine XS.iloadN X385.here hx rfl (hb hby d7_37) rfl ?_
    exact kt
   obtain ⟨vv386, _, ⟨T386, L386, k386, n386⟩, -, X386, ⟨Lc386, hQ386, l386, y386, z386⟩, st386⟩ := Jvm.LawKit.callS X385 hx (y := (⟨"java/util/Arrays", "binarySearch", "([IIII)I"⟩ : MethodName)) hown (mvT hZ (Wd79 hw)) (mvT hZ (Wd80 hw)) (mvT hZ (Wd81 hw)) (mvT hZ (Wd82 hw)) (by decide) (backOf (W := 0) (c_bs1 l Z a0 hw [] y ky z0 p1 h0 n0 Z0 Ay) hZ (Wd82 hw) (Wd81 hw) (by decide) (by decide)) (g := (fr_add1 m b p1 q1 38 (.val (.int (1 : Int32))) .unset [(.int p1), (.int (1 : Int32)), (.int (0 : Int32)), (.ref y)])) rfl (by rw [hml]; rfl) (argsL := [(.ref y), (.int (0 : Int32)), (.int (1 : Int32)), (.int p1)]) (rest := []) (lenOf pd_11 rfl) rfl (by show 2 * 0 + _ ≤ _; exact Nat.le_of_eq rfl) (hb hby d7_38) (fun _ _ => ⟨rfl, e385, (by decide : 0 + 0 ≤ _), (by decide : 0 + 0 ≤ _)⟩)
   dsimp only [Pt.U, Pt.locs, Pt.cells, Pt.slots] at X386 l386 y386 z386 st386 hQ386
   subst l386 y386 z386
   obtain ⟨r386, rfl, Nq386, Eq386, hB386⟩ := hQ386
   rcases hB386 with ⟨hb386_0_0, rfl⟩ | ⟨hb386_1_0, hb386_1_1, rfl⟩ | ⟨hb386_2_0, hb386_2_1, rfl⟩
   ·skip
    exfalso
    simp only [Int32.lt_iff_toInt_lt, ← Int32.toInt_inj] at hb386_0_0 hc226
    omega
   ·skip
    have N387 := Fr.app N0 Nq386
    obtain ⟨Lh388, Xh388, Nh388⟩ := oHd 0 0 X386 N387 rfl rfl
    refine ownBy st386 ?_
    clear st386
    show ownG p.tables e below _ (T386.setTop (fr_add1 m b p1 q1 41 (.val (.int (1 : Int32))) .unset [(.int (-1 : Int32))]))
    refine ownBy (A := T386.setTop (fr_add1 m b p1 q1 70 (.val (.int (0 : Int32))) .unset [(.ref b)])) (fun t kt => ?_) ?_
    ·refine XS.istore Xh388.here hx rfl (hb hby d7_41) rfl (l' := #[.val (.ref b), .val (.int p1), .val .null, .val .null, .val (.long q1), .second, .val (.int (-1 : Int32)), .unset, .unset]) rfl ?_
     refine XS.iload Xh388.here hx rfl (hb hby d7_43) rfl ?_
     refine XS.ifYes Xh388.here hx rfl (pc0 := 45) (pc' := 62) rfl (hb hby d7_45) rfl ((if0 _ _).trans (tlt ((by decide) : (-1 : Int32) < (0 : Int32))).1) (by decide) (by decide) ?_
     show Steps p.tables e below (T386.setTop (fr_add1 m b p1 q1 62 (.val (.int (-1 : Int32))) .unset [])) t
     refine XS.iload Xh388.here hx rfl (hb hby d7_62) rfl ?_
     refine XS.ineg Xh388.here hx rfl (hb hby d7_64) rfl ?_
     refine XS.iconst Xh388.here hx rfl (hb hby d7_65) ?_
     show Steps p.tables e below (T386.setTop (fr_add1 m b p1 q1 66 (.val (.int (-1 : Int32))) .unset [(.int (1 : Int32)), (.int (1 : Int32))])) t
     refine XS.isub Xh388.here hx rfl (hb hby d7_66) rfl ?_
     refine XS.istore Xh388.here hx rfl (hb hby d7_67) rfl (l' := #[.val (.ref b), .val (.int p1), .val .null, .val .null, .val (.long q1), .second, .val (.int (0 : Int32)), .unset, .unset]) rfl ?_
     refine XS.aloadN Xh388.here hx rfl (hb hby d7_69) rfl rfl ?_
     exact kt
    refine own_getF Xh388 hx hZ hown (host := "") (Or.inl (Wd64 hw)) Via.refl Eq386 Fs (hb hby d7_70) (fun T389 X389 e389 => ?_)
    refine ownBy (A := T389.setTop (fr_add1 m b p1 q1 86 (.val (.int (0 : Int32))) .unset [(.ref b)])) (fun t kt => ?_) ?_
    ·refine XS.ifYes X389.here hx rfl (pc0 := 73) (pc' := 85) rfl (hb hby d7_73) rfl ((if0 _ _).trans (feq ((by decide) : ¬ ((1 : Int32) = (0 : Int32)))).2) (by decide) (by decide) ?_
     refine XS.aloadN X389.here hx rfl (hb hby d7_85) rfl rfl ?_
     exact kt
    refine own_getF X389 hx hZ hown (host := "") (Or.inl (Wd72 hw)) Via.refl e389 Fl (hb hby d7_86) (fun T390 X390 e390 => ?_)
    refine ownBy (A := T390.setTop (fr_add1 m b p1 q1 95 (.val (.int (0 : Int32))) .unset [(.ref b), (.int (0 : Int32))])) (fun t kt => ?_) ?_
    ·refine XS.ifnonnullNo X390.here hx rfl (hb hby d7_89) rfl ?_
     refine XS.iload X390.here hx rfl (hb hby d7_92) rfl ?_
     refine XS.aloadN X390.here hx rfl (hb hby d7_94) rfl rfl ?_
     exact kt
    refine own_getF X390 hx hZ hown (host := "") (Or.inl (Wd64 hw)) Via.refl e390 Fs (hb hby d7_95) (fun T391 X391 e391 => ?_)
    refine ownBy (A := T391.setTop (fr_add1 m b p1 q1 119 (.val (.int (0 : Int32))) .unset [(.ref b), (.ref b)])) (fun t kt => ?_) ?_
    ·refine XS.icmpYes X391.here hx rfl (pc0 := 98) (pc' := 117) rfl (hb hby d7_98) rfl (feq ((by decide) : ¬ ((0 : Int32) = (1 : Int32)))).2 (by decide) (by decide) ?_
     refine XS.aloadN X391.here hx rfl (hb hby d7_117) rfl rfl ?_
     refine XS.aloadN X391.here hx rfl (hb hby d7_118) rfl rfl ?_
     exact kt
    refine own_getF X391 hx hZ hown (host := "") (Or.inl (Wd35 hw)) Via.refl e391 Fy (hb hby d7_119) (fun T392 X392 e392 => ?_)
    obtain ⟨cl393, Ar393, -, S393, N393, -, -⟩ := id Ay
    have st393 := X392.arraylength hx (by rw [e392]; exact Ar393.1) (State.isArrayOf_alike hZ.alike Ar393.2.1) (g := (fr_add1 m b p1 q1 122 (.val (.int (0 : Int32))) .unset [(.ref y), (.ref b)])) rfl rfl (hb hby d7_122)
    rw [len_of S393 N393] at st393
    refine ownBy st393 ?_
    show ownG p.tables e below _ (T392.setTop (fr_add1 m b p1 q1 123 (.val (.int (0 : Int32))) .unset [(.int (8 : Int32)), (.ref b)]))
    obtain ⟨T394, h394, k394, X394, e394, E394, A394, st394⟩ := newP X392 hx hZ (aty := .long) (Wd56 hw) e392 (g := (fr_add1 m b p1 q1 123 (.val (.int (0 : Int32))) .unset [(.int (8 : Int32)), (.ref b)])) rfl (hb hby d7_123) rfl (by decide : ¬ ((8 : Int32) < (0 : Int32))) (cap := 8) (by decide) (by decide) (by decide) (by decide)
    obtain ⟨b394, g394⟩ : ∃ z, z = h0.size := ⟨_, rfl⟩
    rw [← g394] at A394 st394
    have ne395 : b ≠ b394 := Nat.ne_of_lt (Nat.lt_of_lt_of_le E1.lt (Nat.le_of_eq g394.symm))
    have ne396 : y ≠ b394 := Nat.ne_of_lt (Nat.lt_of_lt_of_le Ay.lt (Nat.le_of_eq g394.symm))
    have ne397 : hh ≠ b394 := Nat.ne_of_lt (Nat.lt_of_lt_of_le Ah.lt (Nat.le_of_eq g394.symm))
    have ne398 : nn ≠ b394 := Nat.ne_of_lt (Nat.lt_of_lt_of_le An.lt (Nat.le_of_eq g394.symm))
    have g399 : n0 ≤ b394 := Nat.le_trans Z0 (Nat.le_of_eq g394.symm)
    have z400 : h0.size ≤ b394 := Nat.le_trans (Nat.le_refl h0.size) (Nat.le_of_eq g394.symm)
    have V401 : Arv Z h394 b394 k394 .long (8 : Int32) [(.long (0 : Int64)), (.long (0 : Int64)), (.long (0 : Int64)), (.long (0 : Int64)), (.long (0 : Int64)), (.long (0 : Int64)), (.long (0 : Int64)), (.long (0 : Int64))] (.long (0 : Int64)) := (Arv.new A394 (by decide)).pad (pad_rep [] (.long (0 : Int64)) 8)
    refine ownBy st394 ?_
    clear st394
    show ownG p.tables e below _ (T394.setTop (fr_add1 m b p1 q1 125 (.val (.int (0 : Int32))) .unset [(.ref b394), (.ref b)]))
    have f403 := (Fl.ext E394)
    have f404 := (E1.ext E394)
    obtain ⟨T402, h402, X402, e402, W402, st402⟩ := putF X394 hx hZ hown (host := "") (Or.inl (Wd72 hw)) Via.refl e394 f403 f404 (Or.inl (Wd73 hw)) (Wd3 hw) (ty := (.array .long)) (by decide) rfl rfl (g := (fr_add1 m b p1 q1 125 (.val (.int (0 : Int32))) .unset [(.ref b394), (.ref b)])) rfl rfl (hb hby d7_125)
    have F405 := f403.same W402
    have N406 := Fr.snoc X402 Nh388 gb
    obtain ⟨Lh407, Xh407, Nh407⟩ := oHd 1 8 X402 N406 rfl rfl
    refine ownBy st402 ?_
    clear st402
    show ownG p.tables e below _ (T402.setTop (fr_add1 m b p1 q1 128 (.val (.int (0 : Int32))) .unset []))
    refine ownBy (A := T402.setTop (fr_add1 m b p1 q1 134 (.val (.int (0 : Int32))) (.val (.int (0 : Int32))) [(.ref b), (.int (0 : Int32))])) (fun t kt => ?_) ?_
    ·refine XS.iconst Xh407.here hx rfl (hb hby d7_128) ?_
     refine XS.istore Xh407.here hx rfl (hb hby d7_129) rfl (l' := #[.val (.ref b), .val (.int p1), .val .null, .val .null, .val (.long q1), .second, .val (.int (0 : Int32)), .val (.int (0 : Int32)), .unset]) rfl ?_
     refine XS.iload Xh407.here hx rfl (hb hby d7_131) rfl ?_
     show Steps p.tables e below (T402.setTop (fr_add1 m b p1 q1 133 (.val (.int (0 : Int32))) (.val (.int (0 : Int32))) [(.int (0 : Int32))])) t
     refine XS.aloadN Xh407.here hx rfl (hb hby d7_133) rfl rfl ?_
     exact kt
    have f409 := ((Fs.ext E394).other W402 (Or.inr (slot_ne (Or.inl (Wd65 hw)) (Or.inl (Wd73 hw)) (by decide) (t := .int) (t' := (.array .long)) (by decide) (by decide))))
    refine own_getF Xh407 hx hZ hown (host := "") (Or.inl (Wd64 hw)) Via.refl e402 f409 (hb hby d7_134) (fun T408 X408 e408 => ?_)
    refine ownBy (A := T408.setTop (fr_add1 m b p1 q1 141 (.val (.int (0 : Int32))) (.val (.int (0 : Int32))) [(.ref b)])) (fun t kt => ?_) ?_
    ·refine XS.icmpNo X408.here hx rfl (hb hby d7_137) rfl (tlt ((by decide) : (0 : Int32) < (1 : Int32))).2.1 ?_
     refine XS.aloadN X408.here hx rfl (hb hby d7_140) rfl rfl ?_
     exact kt
    refine own_getF X408 hx hZ hown (host := "") (Or.inl (Wd72 hw)) Via.refl e408 F405 (hb hby d7_141) (fun T410 X410 e410 => ?_)
    refine ownBy (A := T410.setTop (fr_add1 m b p1 q1 147 (.val (.int (0 : Int32))) (.val (.int (0 : Int32))) [(.ref b), (.int (0 : Int32)), (.ref b394)])) (fun t kt => ?_) ?_
    ·refine XS.iload X410.here hx rfl (hb hby d7_144) rfl ?_
     refine XS.aloadN X410.here hx rfl (hb hby d7_146) rfl rfl ?_
     exact kt
    have f412 := ((Ff.ext E394).other W402 (Or.inr (slot_ne (Or.inl (Wd67 hw)) (Or.inl (Wd73 hw)) (by decide) (t := .long) (t' := (.array .long)) (by decide) (by decide))))
    refine own_getF X410 hx hZ hown (host := "") (Or.inl (Wd66 hw)) Via.refl e410 f412 (hb hby d7_147) (fun T411 X411 e411 => ?_)
    refine ownBy (A := T411.setTop (fr_add1 m b p1 q1 154 (.val (.int (0 : Int32))) (.val (.int (0 : Int32))) [(.long (f1 + (0 : Int64))), (.int (0 : Int32)), (.ref b394)])) (fun t kt => ?_) ?_
    ·refine XS.iload X411.here hx rfl (hb hby d7_150) rfl ?_
     refine XS.i2l X411.here hx rfl (hb hby d7_152) rfl ?_
     refine XS.ladd X411.here hx rfl (hb hby d7_153) rfl ?_
     exact kt
    have f413 := (V401.other W402 (Ne.symm ne395))
    obtain ⟨cl414, Ar414, q414, S414, N414, H414, G414⟩ := id f413
    have hin414 : ¬ ((0 : Int32) < 0 ∨ cl414.slots.size ≤ ((0 : Int32)).toNatClampNeg) := inb_of S414 ⟨by decide, by decide⟩
    obtain ⟨T414, h414, X414, e414, W414, st414⟩ := stJ X411 hx hZ e411 Ar414 (j := (0 : Int32)) hin414 (g := (fr_add1 m b p1 q1 154 (.val (.int (0 : Int32))) (.val (.int (0 : Int32))) [(.long (f1 + (0 : Int64))), (.int (0 : Int32)), (.ref b394)])) rfl rfl (hb hby d7_154)
    have V415 : Arv Z h414 b394 k394 .long (8 : Int32) [(.long (f1 + (0 : Int64))), (.long (0 : Int64)), (.long (0 : Int64)), (.long (0 : Int64)), (.long (0 : Int64)), (.long (0 : Int64)), (.long (0 : Int64)), (.long (0 : Int64))] (.long (0 : Int64)) := Arv.set Ar414 q414 S414 N414 H414 G414 rfl W414 0 rfl (oLe rfl)
    clear hin414 G414 H414 N414 S414 q414 Ar414 cl414 f413
    have N416 := Fr.snoc X414 Nh407 g399
    obtain ⟨Lh417, Xh417, Nh417⟩ := oHd 1 8 X414 N416 rfl rfl
    refine ownBy st414 ?_
    clear st414
    show ownG p.tables e below _ (T414.setTop (fr_add1 m b p1 q1 155 (.val (.int (0 : Int32))) (.val (.int (0 : Int32))) []))
    refine ownBy (A := T414.setTop (fr_add1 m b p1 q1 134 (.val (.int (0 : Int32))) (.val (.int (1 : Int32))) [(.ref b), (.int (1 : Int32))])) (fun t kt => ?_) ?_
    ·refine XS.iinc Xh417.here hx rfl (hb hby d7_155) rfl (l' := #[.val (.ref b), .val (.int p1), .val .null, .val .null, .val (.long q1), .second, .val (.int (0 : Int32)), .val (.int (1 : Int32)), .unset]) rfl ?_
     refine XS.goto Xh417.here hx rfl (pc0 := 158) (pc' := 131) rfl (hb hby d7_158) (by decide) (by decide) ?_
     refine XS.iload Xh417.here hx rfl (hb hby d7_131) rfl ?_
     show Steps p.tables e below (T414.setTop (fr_add1 m b p1 q1 133 (.val (.int (0 : Int32))) (.val (.int (1 : Int32))) [(.int (1 : Int32))])) t
     refine XS.aloadN Xh417.here hx rfl (hb hby d7_133) rfl rfl ?_
     exact kt
    have f419 := (f409.other W414 (Or.inl ne395))
    refine own_getF Xh417 hx hZ hown (host := "") (Or.inl (Wd64 hw)) Via.refl e414 f419 (hb hby d7_134) (fun T418 X418 e418 => ?_)
    refine ownBy (A := T418.setTop (fr_add1 m b p1 q1 162 (.val (.int (0 : Int32))) (.val (.int (1 : Int32))) [(.ref b)])) (fun t kt => ?_) ?_
    ·refine XS.icmpYes X418.here hx rfl (pc0 := 137) (pc' := 161) rfl (hb hby d7_137) rfl (flt ((by decide) : ¬ ((1 : Int32) < (1 : Int32)))).2.1 (by decide) (by decide) ?_
     refine XS.aloadN X418.here hx rfl (hb hby d7_161) rfl rfl ?_
     exact kt
    refine own_getF X418 hx hZ hown (host := "") (Or.inl (Wd64 hw)) Via.refl e418 f419 (hb hby d7_162) (fun T420 X420 e420 => ?_)
    refine ownBy (A := T420.setTop (fr_add1 m b p1 q1 166 (.val (.int (0 : Int32))) (.val (.int (1 : Int32))) [(.ref b), (.int (1 : Int32))])) (fun t kt => ?_) ?_
    ·refine XS.aloadN X420.here hx rfl (hb hby d7_165) rfl rfl ?_
     exact kt
    have f422 := (((Fy.ext E394).other W402 (Or.inr (slot_ne (Or.inl (Wd36 hw)) (Or.inl (Wd73 hw)) (by decide) (t := (.array .int)) (t' := (.array .long)) (by decide) (by decide)))).other W414 (Or.inl ne395))
    refine own_getF X420 hx hZ hown (host := "") (Or.inl (Wd35 hw)) Via.refl e420 f422 (hb hby d7_166) (fun T421 X421 e421 => ?_)
    have f423 := (((Ay.ext E394).other W402 (Ne.symm ne215)).other W414 ne396)
    obtain ⟨cl424, Ar424, -, S424, N424, -, -⟩ := id f423
    have st424 := X421.arraylength hx (by rw [e421]; exact Ar424.1) (State.isArrayOf_alike hZ.alike Ar424.2.1) (g := (fr_add1 m b p1 q1 169 (.val (.int (0 : Int32))) (.val (.int (1 : Int32))) [(.ref y), (.int (1 : Int32))])) rfl rfl (hb hby d7_169)
    rw [len_of S424 N424] at st424
    refine ownBy st424 ?_
    show ownG p.tables e below _ (T421.setTop (fr_add1 m b p1 q1 170 (.val (.int (0 : Int32))) (.val (.int (1 : Int32))) [(.int (8 : Int32)), (.int (1 : Int32))]))
    refine ownBy (A := T421.setTop (fr_add1 m b p1 q1 277 (.val (.int (0 : Int32))) (.val (.int (1 : Int32))) [(.ref b)])) (fun t kt => ?_) ?_
    ·refine XS.icmpYes X421.here hx rfl (pc0 := 170) (pc' := 276) rfl (hb hby d7_170) rfl (feq ((by decide) : ¬ ((1 : Int32) = (8 : Int32)))).2 (by decide) (by decide) ?_
     refine XS.aloadN X421.here hx rfl (hb hby d7_276) rfl rfl ?_
     exact kt
    refine own_getF X421 hx hZ hown (host := "") (Or.inl (Wd35 hw)) Via.refl e421 f422 (hb hby d7_277) (fun T425 X425 e425 => ?_)
    refine ownBy (A := T425.setTop (fr_add1 m b p1 q1 283 (.val (.int (0 : Int32))) (.val (.int (1 : Int32))) [(.ref b), (.int (0 : Int32)), (.ref y)])) (fun t kt => ?_) ?_
    ·refine XS.iload X425.here hx rfl (hb hby d7_280) rfl ?_
     refine XS.aloadN X425.here hx rfl (hb hby d7_282) rfl rfl ?_
     exact kt
    refine own_getF X425 hx hZ hown (host := "") (Or.inl (Wd35 hw)) Via.refl e425 f422 (hb hby d7_283) (fun T426 X426 e426 => ?_)
    refine ownBy (A := T426.setTop (fr_add1 m b p1 q1 291 (.val (.int (0 : Int32))) (.val (.int (1 : Int32))) [(.ref b), (.int (1 : Int32)), (.ref y), (.int (0 : Int32)), (.ref y)])) (fun t kt => ?_) ?_
    ·refine XS.iload X426.here hx rfl (hb hby d7_286) rfl ?_
     refine XS.iconst X426.here hx rfl (hb hby d7_288) ?_
     refine XS.iadd X426.here hx rfl (hb hby d7_289) rfl ?_
     show Steps p.tables e below (T426.setTop (fr_add1 m b p1 q1 290 (.val (.int (0 : Int32))) (.val (.int (1 : Int32))) [(.int (1 : Int32)), (.ref y), (.int (0 : Int32)), (.ref y)])) t
     refine XS.aloadN X426.here hx rfl (hb hby d7_290) rfl rfl ?_
     exact kt
    refine own_getF X426 hx hZ hown (host := "") (Or.inl (Wd64 hw)) Via.refl e426 f419 (hb hby d7_291) (fun T427 X427 e427 => ?_)
    refine ownBy (A := T427.setTop (fr_add1 m b p1 q1 297 (.val (.int (0 : Int32))) (.val (.int (1 : Int32))) [(.int (1 : Int32)), (.int (1 : Int32)), (.ref y), (.int (0 : Int32)), (.ref y)])) (fun t kt => ?_) ?_
    ·refine XS.iload X427.here hx rfl (hb hby d7_294) rfl ?_
     refine XS.isub X427.here hx rfl (hb hby d7_296) rfl ?_
     exact kt
    obtain ⟨T428, h428, L428, X428, e428, Nq428, K428, A428, st428⟩ := cpA X427 hx hZ hown (Wd68 hw) (Wd71 hw) (Wd69 hw) (Wd70 hw) e427 f423 f423 (us := [(.int z0)]) (Or.inl ⟨rfl, rfl⟩) (sp := (0 : Int32)) (dp := (1 : Int32)) (nn := (1 : Int32)) (by decide) (by decide) (by decide) (by decide) (by decide) rfl (oLe rfl) Nh417 gy (g := (fr_add1 m b p1 q1 297 (.val (.int (0 : Int32))) (.val (.int (1 : Int32))) [(.int (1 : Int32)), (.int (1 : Int32)), (.ref y), (.int (0 : Int32)), (.ref y)])) rfl (by rw [hml]; rfl) rfl (hb hby d7_297) (by decide) (W := 0) (by show 2 * 0 + _ ≤ _; exact Nat.le_of_eq rfl) (by decide)
    have V429 : Arv Z h428 y ky .int (8 : Int32) [(.int z0), (.int z0), (.int (0 : Int32)), (.int (0 : Int32)), (.int (0 : Int32)), (.int (0 : Int32)), (.int (0 : Int32)), (.int (0 : Int32))] (.int (0 : Int32)) := A428
    refine ownBy st428 ?_
    clear st428
    show ownG p.tables e below _ (T428.setTop (fr_add1 m b p1 q1 300 (.val (.int (0 : Int32))) (.val (.int (1 : Int32))) []))
    refine ownBy (A := T428.setTop (fr_add1 m b p1 q1 301 (.val (.int (0 : Int32))) (.val (.int (1 : Int32))) [(.ref b)])) (fun t kt => ?_) ?_
    ·refine XS.aloadN X428.here hx rfl (hb hby d7_300) rfl rfl ?_
     exact kt
    have f431 := ((((Fh.ext E394).other W402 (Or.inr (slot_ne (Or.inl (Wd40 hw)) (Or.inl (Wd73 hw)) (by decide) (t := (.array (.object "java/math/BigDecimal"))) (t' := (.array .long)) (by decide) (by decide)))).other W414 (Or.inl ne395)).keep K428 (ninS ne215 nin0))
    refine own_getF X428 hx hZ hown (host := "") (Or.inl (Wd39 hw)) Via.refl e428 f431 (hb hby d7_301) (fun T430 X430 e430 => ?_)
    refine ownBy (A := T430.setTop (fr_add1 m b p1 q1 307 (.val (.int (0 : Int32))) (.val (.int (1 : Int32))) [(.ref b), (.int (0 : Int32)), (.ref hh)])) (fun t kt => ?_) ?_
    ·refine XS.iload X430.here hx rfl (hb hby d7_304) rfl ?_
     refine XS.aloadN X430.here hx rfl (hb hby d7_306) rfl rfl ?_
     exact kt
    refine own_getF X430 hx hZ hown (host := "") (Or.inl (Wd39 hw)) Via.refl e430 f431 (hb hby d7_307) (fun T432 X432 e432 => ?_)
    refine ownBy (A := T432.setTop (fr_add1 m b p1 q1 315 (.val (.int (0 : Int32))) (.val (.int (1 : Int32))) [(.ref b), (.int (1 : Int32)), (.ref hh), (.int (0 : Int32)), (.ref hh)])) (fun t kt => ?_) ?_
    ·refine XS.iload X432.here hx rfl (hb hby d7_310) rfl ?_
     refine XS.iconst X432.here hx rfl (hb hby d7_312) ?_
     refine XS.iadd X432.here hx rfl (hb hby d7_313) rfl ?_
     show Steps p.tables e below (T432.setTop (fr_add1 m b p1 q1 314 (.val (.int (0 : Int32))) (.val (.int (1 : Int32))) [(.int (1 : Int32)), (.ref hh), (.int (0 : Int32)), (.ref hh)])) t
     refine XS.aloadN X432.here hx rfl (hb hby d7_314) rfl rfl ?_
     exact kt
    have f434 := (f419.keep K428 (ninS ne215 nin0))
    refine own_getF X432 hx hZ hown (host := "") (Or.inl (Wd64 hw)) Via.refl e432 f434 (hb hby d7_315) (fun T433 X433 e433 => ?_)
    refine ownBy (A := T433.setTop (fr_add1 m b p1 q1 321 (.val (.int (0 : Int32))) (.val (.int (1 : Int32))) [(.int (1 : Int32)), (.int (1 : Int32)), (.ref hh), (.int (0 : Int32)), (.ref hh)])) (fun t kt => ?_) ?_
    ·refine XS.iload X433.here hx rfl (hb hby d7_318) rfl ?_
     refine XS.isub X433.here hx rfl (hb hby d7_320) rfl ?_
     exact kt
    have f436 := ((((Ah.ext E394).other W402 (Ne.symm ne216)).other W414 ne397).keep K428 (ninS (Ne.symm ne218) nin0))
    obtain ⟨T435, h435, L435, X435, e435, Nq435, K435, A435, st435⟩ := cpA X433 hx hZ hown (Wd68 hw) (Wd71 hw) (Wd69 hw) (Wd70 hw) e433 f436 f436 (us := [.null]) (Or.inr ⟨rfl, rfl, ⟨Or.inl rfl, trivial⟩⟩) (sp := (0 : Int32)) (dp := (1 : Int32)) (nn := (1 : Int32)) (by decide) (by decide) (by decide) (by decide) (by decide) rfl (oLe rfl) Nq428 gh (g := (fr_add1 m b p1 q1 321 (.val (.int (0 : Int32))) (.val (.int (1 : Int32))) [(.int (1 : Int32)), (.int (1 : Int32)), (.ref hh), (.int (0 : Int32)), (.ref hh)])) rfl (by rw [hml]; rfl) rfl (hb hby d7_321) (by decide) (W := 0) (by show 2 * 0 + _ ≤ _; exact Nat.le_of_eq rfl) (by decide)
    have V437 : Arv Z h435 hh kh (.object "java/math/BigDecimal") (8 : Int32) [.null, .null, .null, .null, .null, .null, .null, .null] .null := A435
    refine ownBy st435 ?_
    clear st435
    show ownG p.tables e below _ (T435.setTop (fr_add1 m b p1 q1 324 (.val (.int (0 : Int32))) (.val (.int (1 : Int32))) []))
    refine ownBy (A := T435.setTop (fr_add1 m b p1 q1 325 (.val (.int (0 : Int32))) (.val (.int (1 : Int32))) [(.ref b)])) (fun t kt => ?_) ?_
    ·refine XS.aloadN X435.here hx rfl (hb hby d7_324) rfl rfl ?_
     exact kt
    have f439 := ((f422.keep K428 (ninS ne215 nin0)).keep K435 (ninS ne216 nin0))
    refine own_getF X435 hx hZ hown (host := "") (Or.inl (Wd35 hw)) Via.refl e435 f439 (hb hby d7_325) (fun T438 X438 e438 => ?_)
    refine ownBy (A := T438.setTop (fr_add1 m b p1 q1 331 (.val (.int (0 : Int32))) (.val (.int (1 : Int32))) [(.int p1), (.int (0 : Int32)), (.ref y)])) (fun t kt => ?_) ?_
    ·refine XS.iload X438.here hx rfl (hb hby d7_328) rfl ?_
     refine XS.iloadN X438.here hx rfl (hb hby d7_330) rfl ?_
     exact kt
    have f440 := (V429.keep K435 (ninS ne218 nin0))
    obtain ⟨cl441, Ar441, q441, S441, N441, H441, G441⟩ := id f440
    have hin441 : ¬ ((0 : Int32) < 0 ∨ cl441.slots.size ≤ ((0 : Int32)).toNatClampNeg) := inb_of S441 ⟨by decide, by decide⟩
    obtain ⟨T441, h441, X441, e441, W441, st441⟩ := stI X438 hx hZ e438 Ar441 (j := (0 : Int32)) hin441 (g := (fr_add1 m b p1 q1 331 (.val (.int (0 : Int32))) (.val (.int (1 : Int32))) [(.int p1), (.int (0 : Int32)), (.ref y)])) rfl rfl (hb hby d7_331)
    have V442 : Arv Z h441 y ky .int (8 : Int32) [(.int p1), (.int z0), (.int (0 : Int32)), (.int (0 : Int32)), (.int (0 : Int32)), (.int (0 : Int32)), (.int (0 : Int32)), (.int (0 : Int32))] (.int (0 : Int32)) := Arv.set Ar441 q441 S441 N441 H441 G441 rfl W441 0 rfl (oLe rfl)
    clear hin441 G441 H441 N441 S441 q441 Ar441 cl441 f440
    have N443 := Fr.snoc X441 Nq435 gy
    obtain ⟨Lh444, Xh444, Nh444⟩ := oHd 1 8 X441 N443 rfl rfl
    refine ownBy st441 ?_
    clear st441
    show ownG p.tables e below _ (T441.setTop (fr_add1 m b p1 q1 332 (.val (.int (0 : Int32))) (.val (.int (1 : Int32))) []))
    refine ownBy (A := T441.setTop (fr_add1 m b p1 q1 333 (.val (.int (0 : Int32))) (.val (.int (1 : Int32))) [(.ref b)])) (fun t kt => ?_) ?_
    ·refine XS.aloadN Xh444.here hx rfl (hb hby d7_332) rfl rfl ?_
     exact kt
    have f446 := ((f431.keep K435 (ninS ne216 nin0)).other W441 (Or.inl ne215))
    refine own_getF Xh444 hx hZ hown (host := "") (Or.inl (Wd39 hw)) Via.refl e441 f446 (hb hby d7_333) (fun T445 X445 e445 => ?_)
    refine ownBy (A := T445.setTop (fr_add1 m b p1 q1 339 (.val (.int (0 : Int32))) (.val (.int (1 : Int32))) [.null, (.int (0 : Int32)), (.ref hh)])) (fun t kt => ?_) ?_
    ·refine XS.iload X445.here hx rfl (hb hby d7_336) rfl ?_
     refine XS.aloadN X445.here hx rfl (hb hby d7_338) rfl rfl ?_
     exact kt
    have f447 := (V437.other W441 (Ne.symm ne218))
    obtain ⟨cl448, Ar448, q448, S448, N448, H448, G448⟩ := id f447
    have hin448 : ¬ ((0 : Int32) < 0 ∨ cl448.slots.size ≤ ((0 : Int32)).toNatClampNeg) := inb_of S448 ⟨by decide, by decide⟩
    obtain ⟨T448, h448, X448, e448, W448, st448⟩ := stR X445 hx hZ e445 Ar448 (j := (0 : Int32)) hin448 rfl (Or.inl rfl) (g := (fr_add1 m b p1 q1 339 (.val (.int (0 : Int32))) (.val (.int (1 : Int32))) [.null, (.int (0 : Int32)), (.ref hh)])) rfl rfl (hb hby d7_339)
    have V449 : Arv Z h448 hh kh (.object "java/math/BigDecimal") (8 : Int32) [.null, .null, .null, .null, .null, .null, .null, .null] .null := Arv.set Ar448 q448 S448 N448 H448 G448 rfl W448 0 rfl (oLe rfl)
    have N450 := Fr.snoc X448 Nh444 gh
    obtain ⟨Lh451, Xh451, Nh451⟩ := oHd 1 8 X448 N450 rfl rfl
    refine ownBy st448 ?_
    clear st448
    show ownG p.tables e below _ (T448.setTop (fr_add1 m b p1 q1 340 (.val (.int (0 : Int32))) (.val (.int (1 : Int32))) []))
    refine ownBy (A := T448.setTop (fr_add1 m b p1 q1 341 (.val (.int (0 : Int32))) (.val (.int (1 : Int32))) [(.ref b)])) (fun t kt => ?_) ?_
    ·refine XS.aloadN Xh451.here hx rfl (hb hby d7_340) rfl rfl ?_
     exact kt
    have f453 := (((((F405.other W414 (Or.inl ne395)).keep K428 (ninS ne215 nin0)).keep K435 (ninS ne216 nin0)).other W441 (Or.inl ne215)).other W448 (Or.inl ne216))
    refine own_getF Xh451 hx hZ hown (host := "") (Or.inl (Wd72 hw)) Via.refl e448 f453 (hb hby d7_341) (fun T452 X452 e452 => ?_)
    refine ownBy (A := T452.setTop (fr_add1 m b p1 q1 348 (.val (.int (0 : Int32))) (.val (.int (1 : Int32))) [(.ref b)])) (fun t kt => ?_) ?_
    ·refine XS.ifnullNo X452.here hx rfl (hb hby d7_344) rfl ?_
     refine XS.aloadN X452.here hx rfl (hb hby d7_347) rfl rfl ?_
     exact kt
    refine own_getF X452 hx hZ hown (host := "") (Or.inl (Wd72 hw)) Via.refl e452 f453 (hb hby d7_348) (fun T454 X454 e454 => ?_)
    refine ownBy (A := T454.setTop (fr_add1 m b p1 q1 354 (.val (.int (0 : Int32))) (.val (.int (1 : Int32))) [(.ref b), (.int (0 : Int32)), (.ref b394)])) (fun t kt => ?_) ?_
    ·refine XS.iload X454.here hx rfl (hb hby d7_351) rfl ?_
     refine XS.aloadN X454.here hx rfl (hb hby d7_353) rfl rfl ?_
     exact kt
    refine own_getF X454 hx hZ hown (host := "") (Or.inl (Wd72 hw)) Via.refl e454 f453 (hb hby d7_354) (fun T455 X455 e455 => ?_)
    refine ownBy (A := T455.setTop (fr_add1 m b p1 q1 362 (.val (.int (0 : Int32))) (.val (.int (1 : Int32))) [(.ref b), (.int (1 : Int32)), (.ref b394), (.int (0 : Int32)), (.ref b394)])) (fun t kt => ?_) ?_
    ·refine XS.iload X455.here hx rfl (hb hby d7_357) rfl ?_
     refine XS.iconst X455.here hx rfl (hb hby d7_359) ?_
     refine XS.iadd X455.here hx rfl (hb hby d7_360) rfl ?_
     show Steps p.tables e below (T455.setTop (fr_add1 m b p1 q1 361 (.val (.int (0 : Int32))) (.val (.int (1 : Int32))) [(.int (1 : Int32)), (.ref b394), (.int (0 : Int32)), (.ref b394)])) t
     refine XS.aloadN X455.here hx rfl (hb hby d7_361) rfl rfl ?_
     exact kt
    have f457 := (((f434.keep K435 (ninS ne216 nin0)).other W441 (Or.inl ne215)).other W448 (Or.inl ne216))
    refine own_getF X455 hx hZ hown (host := "") (Or.inl (Wd64 hw)) Via.refl e455 f457 (hb hby d7_362) (fun T456 X456 e456 => ?_)
    refine ownBy (A := T456.setTop (fr_add1 m b p1 q1 368 (.val (.int (0 : Int32))) (.val (.int (1 : Int32))) [(.int (1 : Int32)), (.int (1 : Int32)), (.ref b394), (.int (0 : Int32)), (.ref b394)])) (fun t kt => ?_) ?_
    ·refine XS.iload X456.here hx rfl (hb hby d7_365) rfl ?_
     refine XS.isub X456.here hx rfl (hb hby d7_367) rfl ?_
     exact kt
    have f459 := ((((V415.keep K428 (ninS (Ne.symm ne396) nin0)).keep K435 (ninS (Ne.symm ne397) nin0)).other W441 (Ne.symm ne396)).other W448 (Ne.symm ne397))
    obtain ⟨T458, h458, L458, X458, e458, Nq458, K458, A458, st458⟩ := cpA X456 hx hZ hown (Wd68 hw) (Wd71 hw) (Wd69 hw) (Wd70 hw) e456 f459 f459 (us := [(.long (f1 + (0 : Int64)))]) (Or.inl ⟨rfl, rfl⟩) (sp := (0 : Int32)) (dp := (1 : Int32)) (nn := (1 : Int32)) (by decide) (by decide) (by decide) (by decide) (by decide) rfl (oLe rfl) Nh451 g399 (g := (fr_add1 m b p1 q1 368 (.val (.int (0 : Int32))) (.val (.int (1 : Int32))) [(.int (1 : Int32)), (.int (1 : Int32)), (.ref b394), (.int (0 : Int32)), (.ref b394)])) rfl (by rw [hml]; rfl) rfl (hb hby d7_368) (by decide) (W := 0) (by show 2 * 0 + _ ≤ _; exact Nat.le_of_eq rfl) (by decide)
    have V460 : Arv Z h458 b394 k394 .long (8 : Int32) [(.long (f1 + (0 : Int64))), (.long (f1 + (0 : Int64))), (.long (0 : Int64)), (.long (0 : Int64)), (.long (0 : Int64)), (.long (0 : Int64)), (.long (0 : Int64)), (.long (0 : Int64))] (.long (0 : Int64)) := A458
    refine ownBy st458 ?_
    clear st458
    show ownG p.tables e below _ (T458.setTop (fr_add1 m b p1 q1 371 (.val (.int (0 : Int32))) (.val (.int (1 : Int32))) []))
    refine ownBy (A := T458.setTop (fr_add1 m b p1 q1 372 (.val (.int (0 : Int32))) (.val (.int (1 : Int32))) [(.ref b)])) (fun t kt => ?_) ?_
    ·refine XS.aloadN X458.here hx rfl (hb hby d7_371) rfl rfl ?_
     exact kt
    have f462 := (f453.keep K458 (ninS ne395 nin0))
    refine own_getF X458 hx hZ hown (host := "") (Or.inl (Wd72 hw)) Via.refl e458 f462 (hb hby d7_372) (fun T461 X461 e461 => ?_)
    refine ownBy (A := T461.setTop (fr_add1 m b p1 q1 379 (.val (.int (0 : Int32))) (.val (.int (1 : Int32))) [(.long q1), (.int (0 : Int32)), (.ref b394)])) (fun t kt => ?_) ?_
    ·refine XS.iload X461.here hx rfl (hb hby d7_375) rfl ?_
     refine XS.lload X461.here hx rfl (hb hby d7_377) rfl ?_
     exact kt
    obtain ⟨cl463, Ar463, q463, S463, N463, H463, G463⟩ := id V460
    have hin463 : ¬ ((0 : Int32) < 0 ∨ cl463.slots.size ≤ ((0 : Int32)).toNatClampNeg) := inb_of S463 ⟨by decide, by decide⟩
    obtain ⟨T463, h463, X463, e463, W463, st463⟩ := stJ X461 hx hZ e461 Ar463 (j := (0 : Int32)) hin463 (g := (fr_add1 m b p1 q1 379 (.val (.int (0 : Int32))) (.val (.int (1 : Int32))) [(.long q1), (.int (0 : Int32)), (.ref b394)])) rfl rfl (hb hby d7_379)
    have V464 : Arv Z h463 b394 k394 .long (8 : Int32) [(.long q1), (.long (f1 + (0 : Int64))), (.long (0 : Int64)), (.long (0 : Int64)), (.long (0 : Int64)), (.long (0 : Int64)), (.long (0 : Int64)), (.long (0 : Int64))] (.long (0 : Int64)) := Arv.set Ar463 q463 S463 N463 H463 G463 rfl W463 0 rfl (oLe rfl)
    clear hin463 G463 H463 N463 S463 q463 Ar463 cl463 V460
    have N465 := Fr.snoc X463 Nq458 g399
    obtain ⟨Lh466, Xh466, Nh466⟩ := oHd 1 8 X463 N465 rfl rfl
    refine ownBy st463 ?_
    clear st463
    show ownG p.tables e below _ (T463.setTop (fr_add1 m b p1 q1 380 (.val (.int (0 : Int32))) (.val (.int (1 : Int32))) []))
    refine ownBy (A := T463.setTop (fr_add1 m b p1 q1 386 (.val (.int (0 : Int32))) (.val (.int (0 : Int32))) [(.ref b), (.int (0 : Int32))])) (fun t kt => ?_) ?_
    ·refine XS.iconst Xh466.here hx rfl (hb hby d7_380) ?_
     refine XS.istore Xh466.here hx rfl (hb hby d7_381) rfl (l' := #[.val (.ref b), .val (.int p1), .val .null, .val .null, .val (.long q1), .second, .val (.int (0 : Int32)), .val (.int (0 : Int32)), .unset]) rfl ?_
     refine XS.iload Xh466.here hx rfl (hb hby d7_383) rfl ?_
     show Steps p.tables e below (T463.setTop (fr_add1 m b p1 q1 385 (.val (.int (0 : Int32))) (.val (.int (0 : Int32))) [(.int (0 : Int32))])) t
     refine XS.aloadN Xh466.here hx rfl (hb hby d7_385) rfl rfl ?_
     exact kt
    have f468 := (((((((((Fn.ext E394).other W402 (Or.inr (slot_ne (Or.inr (Wd58 hw)) (Or.inl (Wd73 hw)) (by decide) (t := (.array (.array .long))) (t' := (.array .long)) (by decide) (by decide)))).other W414 (Or.inl ne395)).keep K428 (ninS ne215 nin0)).keep K435 (ninS ne216 nin0)).other W441 (Or.inl ne215)).other W448 (Or.inl ne216)).keep K458 (ninS ne395 nin0)).other W463 (Or.inl ne395))
    refine own_getF Xh466 hx hZ hown (host := "") (Or.inl (Wd57 hw)) Via.refl e463 f468 (hb hby d7_386) (fun T467 X467 e467 => ?_)
    have f469 := (((((((((An.ext E394).other W402 (Ne.symm ne217)).other W414 ne398).keep K428 (ninS (Ne.symm ne219) nin0)).keep K435 (ninS (Ne.symm ne220) nin0)).other W441 (Ne.symm ne219)).other W448 (Ne.symm ne220)).keep K458 (ninS ne398 nin0)).other W463 ne398)
    obtain ⟨cl470, Ar470, -, S470, N470, -, -⟩ := id f469
    have st470 := X467.arraylength hx (by rw [e467]; exact Ar470.1) (State.isArrayOf_alike hZ.alike Ar470.2.1) (g := (fr_add1 m b p1 q1 389 (.val (.int (0 : Int32))) (.val (.int (0 : Int32))) [(.ref nn), (.int (0 : Int32))])) rfl rfl (hb hby d7_389)
    rw [len_of S470 N470] at st470
    refine ownBy st470 ?_
    show ownG p.tables e below _ (T467.setTop (fr_add1 m b p1 q1 390 (.val (.int (0 : Int32))) (.val (.int (0 : Int32))) [(.int (0 : Int32)), (.int (0 : Int32))]))
    refine ownBy (A := T467.setTop (fr_add1 m b p1 q1 463 (.val (.int (0 : Int32))) (.val (.int (0 : Int32))) [(.ref b), (.ref b)])) (fun t kt => ?_) ?_
    ·refine XS.icmpYes X467.here hx rfl (pc0 := 390) (pc' := 461) rfl (hb hby d7_390) rfl (flt ((by decide) : ¬ ((0 : Int32) < (0 : Int32)))).2.1 (by decide) (by decide) ?_
     refine XS.aloadN X467.here hx rfl (hb hby d7_461) rfl rfl ?_
     refine XS.dup X467.here hx rfl (hb hby d7_462) rfl rfl ?_
     exact kt
    have f472 := ((f457.keep K458 (ninS ne395 nin0)).other W463 (Or.inl ne395))
    refine own_getF X467 hx hZ hown (host := "") (Or.inl (Wd64 hw)) Via.refl e467 f472 (hb hby d7_463) (fun T471 X471 e471 => ?_)
    refine ownBy (A := T471.setTop (fr_add1 m b p1 q1 468 (.val (.int (0 : Int32))) (.val (.int (0 : Int32))) [(.int (2 : Int32)), (.ref b)])) (fun t kt => ?_) ?_
    ·refine XS.iconst X471.here hx rfl (hb hby d7_466) ?_
     refine XS.iadd X471.here hx rfl (hb hby d7_467) rfl ?_
     exact kt
    have f474 := ((((((((f404.wr W402).wr W414).keep K428).keep K435).wr W441).wr W448).keep K458).wr W463)
    obtain ⟨T473, h473, X473, e473, W473, st473⟩ := putF X471 hx hZ hown (host := "") (Or.inl (Wd64 hw)) Via.refl e471 f472 f474 (Or.inl (Wd65 hw)) (Wd3 hw) (ty := .int) (by decide) rfl rfl (g := (fr_add1 m b p1 q1 468 (.val (.int (0 : Int32))) (.val (.int (0 : Int32))) [(.int (2 : Int32)), (.ref b)])) rfl rfl (hb hby d7_468)
    have F475 := f472.same W473
    have N476 := Fr.snoc X473 Nh466 gb
    obtain ⟨Lh477, Xh477, Nh477⟩ := oHd 1 8 X473 N476 rfl rfl
    refine ownBy st473 ?_
    clear st473
    show ownG p.tables e below _ (T473.setTop (fr_add1 m b p1 q1 471 (.val (.int (0 : Int32))) (.val (.int (0 : Int32))) []))
    have f478 := (V464.other W473 (Ne.symm ne395))
    have f480 := (f474.wr W473)
    have f481 := (((((f439.other W441 (Or.inl ne215)).other W448 (Or.inl ne216)).keep K458 (ninS ne395 nin0)).other W463 (Or.inl ne395)).other W473 (Or.inr (slot_ne (Or.inl (Wd36 hw)) (Or.inl (Wd65 hw)) (by decide) (t := (.array .int)) (t' := .int) (by decide) (by decide))))
    have f482 := ((((f446.other W448 (Or.inl ne216)).keep K458 (ninS ne395 nin0)).other W463 (Or.inl ne395)).other W473 (Or.inr (slot_ne (Or.inl (Wd40 hw)) (Or.inl (Wd65 hw)) (by decide) (t := (.array (.object "java/math/BigDecimal"))) (t' := .int) (by decide) (by decide))))
    have f483 := (f468.other W473 (Or.inr (slot_ne (Or.inr (Wd58 hw)) (Or.inl (Wd65 hw)) (by decide) (t := (.array (.array .long))) (t' := .int) (by decide) (by decide))))
    have f484 := ((((((((f412.other W414 (Or.inl ne395)).keep K428 (ninS ne215 nin0)).keep K435 (ninS ne216 nin0)).other W441 (Or.inl ne215)).other W448 (Or.inl ne216)).keep K458 (ninS ne395 nin0)).other W463 (Or.inl ne395)).other W473 (Or.inr (slot_ne (Or.inl (Wd67 hw)) (Or.inl (Wd65 hw)) (by decide) (t := .long) (t' := .int) (by decide) (by decide))))
    have f485 := ((f462.other W463 (Or.inl ne395)).other W473 (Or.inr (slot_ne (Or.inl (Wd73 hw)) (Or.inl (Wd65 hw)) (by decide) (t := (.array .long)) (t' := .int) (by decide) (by decide))))
    have f486 := ((((V442.other W448 ne218).keep K458 (ninS ne396 nin0)).other W463 ne396).other W473 (Ne.symm ne215))
    have f487 := (((V449.keep K458 (ninS ne397 nin0)).other W463 ne397).other W473 (Ne.symm ne216))
    have f488 := (f469.other W473 (Ne.symm ne217))
    have f489 := (Nat.le_trans (Nat.le_trans (Nat.le_trans (Nat.le_trans (Nat.le_trans (Nat.le_trans (Nat.le_trans (Nat.le_trans (Nat.le_trans (Nat.le_trans (Nat.le_refl h0.size) E394.1) (Keep.of_wr W402).1) (Keep.of_wr W414).1) K428.1) K435.1) (Keep.of_wr W441).1) (Keep.of_wr W448).1) K458.1) (Keep.of_wr W463).1) (Keep.of_wr W473).1)
    refine ownRet Xh477 Bd.notSynchronized (v := none) (fun _ => rfl) ?_ (oLe rfl) (oLe rfl) (fun fs hr => Xh477.returnOut hx Bd.returns (hb hby d7_471) hr)
    show (Q_add1 Z b y hh nn ky kh kn z0 m0 f1 lv p1 q1 h0 n0) (none) T473.heap _
    rw [e473]
    have V479 := f478
    rw [← hm0] at V479
    exact ⟨rfl, Nh477, f489, p1, z0, q1, m0, f1, (.ref b394), hb386_1_1, Or.inl ⟨rfl, rfl, rfl, rfl⟩, f480, f481, f482, f483, F475, f484, f485, f486, f487, f488, Or.inr ⟨b394, k394, rfl, g399, V479⟩⟩
   ·skip
    exfalso
    simp only [Int32.lt_iff_toInt_lt, ← Int32.toInt_inj] at hb386_2_0 hb386_2_1 hne0
    omega
 ·rw [hlv] at Fl
  have ne490 : b ≠ y := Exa.neArv E1 Ay (Wd3 hw)
  have ne491 : b ≠ hh := Exa.neArv E1 Ah (Wd3 hw)
  have ne492 : b ≠ nn := Exa.neArv E1 An (Wd3 hw)
  have ne493 : b ≠ ln := Exa.neArv E1 Al (Wd3 hw)
  have ne494 : y ≠ hh := own_ty_ne Ay Ah (by decide)
  have ne495 : y ≠ nn := own_ty_ne Ay An (by decide)
  have ne496 : y ≠ ln := own_ty_ne Ay Al (by decide)
  have ne497 : hh ≠ nn := own_ty_ne Ah An (by decide)
  have ne498 : hh ≠ ln := own_ty_ne Ah Al (by decide)
  have ne499 : nn ≠ ln := own_ty_ne An Al (by decide)
  refine ownBy (A := s₁.setTop (fr_add1 m b p1 q1 1 .unset .unset [(.ref b)])) (fun t kt => ?_) ?_
  ·refine XS.aloadN X0.here hx rfl (hb hby d7_0) rfl rfl ?_
   exact kt
  refine own_getF X0 hx hZ hown (host := "") (Or.inl (Wd64 hw)) Via.refl e0 Fs (hb hby d7_1) (fun T500 X500 e500 => ?_)
  refine ownBy (A := T500.setTop (fr_add1 m b p1 q1 7 (.val (.int (1 : Int32))) .unset [(.ref b)])) (fun t kt => ?_) ?_
  ·refine XS.istore X500.here hx rfl (hb hby d7_4) rfl (l' := #[.val (.ref b), .val (.int p1), .val .null, .val .null, .val (.long q1), .second, .val (.int (1 : Int32)), .unset, .unset]) rfl ?_
   refine XS.aloadN X500.here hx rfl (hb hby d7_6) rfl rfl ?_
   exact kt
  refine own_getF X500 hx hZ hown (host := "") (Or.inl (Wd64 hw)) Via.refl e500 Fs (hb hby d7_7) (fun T501 X501 e501 => ?_)
  refine ownBy (A := T501.setTop (fr_add1 m b p1 q1 14 (.val (.int (1 : Int32))) .unset [(.ref b)])) (fun t kt => ?_) ?_
  ·refine XS.ifNo X501.here hx rfl (hb hby d7_10) rfl ((if0 _ _).trans (tlt ((by decide) : (0 : Int32) < (1 : Int32))).2.2.2) ?_
   refine XS.aloadN X501.here hx rfl (hb hby d7_13) rfl rfl ?_
   exact kt
  refine own_getF X501 hx hZ hown (host := "") (Or.inl (Wd35 hw)) Via.refl e501 Fy (hb hby d7_14) (fun T502 X502 e502 => ?_)
  refine ownBy (A := T502.setTop (fr_add1 m b p1 q1 18 (.val (.int (1 : Int32))) .unset [(.ref b), (.ref y)])) (fun t kt => ?_) ?_
  ·refine XS.aloadN X502.here hx rfl (hb hby d7_17) rfl rfl ?_
   exact kt
  refine own_getF X502 hx hZ hown (host := "") (Or.inl (Wd64 hw)) Via.refl e502 Fs (hb hby d7_18) (fun T503 X503 e503 => ?_)
  refine ownBy (A := T503.setTop (fr_add1 m b p1 q1 23 (.val (.int (1 : Int32))) .unset [(.int (0 : Int32)), (.ref y)])) (fun t kt => ?_) ?_
  ·refine XS.iconst X503.here hx rfl (hb hby d7_21) ?_
   refine XS.isub X503.here hx rfl (hb hby d7_22) rfl ?_
   exact kt
  obtain ⟨cl504, Ar504, q504, S504, N504, H504, G504⟩ := id Ay
  have hin504 : ¬ ((0 : Int32) < 0 ∨ cl504.slots.size ≤ ((0 : Int32)).toNatClampNeg) := inb_of S504 ⟨by decide, by decide⟩
  have hat504 : cl504.slots[((0 : Int32)).toNatClampNeg]? = some (.int z0) := H504.at hin504 rfl
  have st504 := X503.iaload hx (j := (0 : Int32)) (v := (.int z0)) (by rw [e503]; exact Ar504.1) (State.isArrayOf_alike hZ.alike Ar504.2.1) Ar504.2.2 hin504 hat504 (g := (fr_add1 m b p1 q1 23 (.val (.int (1 : Int32))) .unset [(.int (0 : Int32)), (.ref y)])) rfl rfl (hb hby d7_23)
  refine ownBy st504 ?_
  show ownG p.tables e below _ (T503.setTop (fr_add1 m b p1 q1 24 (.val (.int (1 : Int32))) .unset [(.int z0)]))
  refine ownBy (A := T503.setTop (fr_add1 m b p1 q1 25 (.val (.int (1 : Int32))) .unset [(.int p1), (.int z0)])) (fun t kt => ?_) ?_
  ·refine XS.iloadN X503.here hx rfl (hb hby d7_24) rfl ?_
   exact kt
  by_cases hc505 : z0 < p1
  ·skip
   refine ownBy (A := T503.setTop (fr_add1 m b p1 q1 70 (.val (.int (1 : Int32))) .unset [(.ref b)])) (fun t kt => ?_) ?_
   ·refine XS.icmpYes X503.here hx rfl (pc0 := 25) (pc' := 69) rfl (hb hby d7_25) rfl (tlt hc505).1 (by decide) (by decide) ?_
    refine XS.aloadN X503.here hx rfl (hb hby d7_69) rfl rfl ?_
    exact kt
   refine own_getF X503 hx hZ hown (host := "") (Or.inl (Wd64 hw)) Via.refl e503 Fs (hb hby d7_70) (fun T506 X506 e506 => ?_)
   refine ownBy (A := T506.setTop (fr_add1 m b p1 q1 86 (.val (.int (1 : Int32))) .unset [(.ref b)])) (fun t kt => ?_) ?_
   ·refine XS.ifYes X506.here hx rfl (pc0 := 73) (pc' := 85) rfl (hb hby d7_73) rfl ((if0 _ _).trans (feq ((by decide) : ¬ ((1 : Int32) = (0 : Int32)))).2) (by decide) (by decide) ?_
    refine XS.aloadN X506.here hx rfl (hb hby d7_85) rfl rfl ?_
    exact kt
   refine own_getF X506 hx hZ hown (host := "") (Or.inl (Wd72 hw)) Via.refl e506 Fl (hb hby d7_86) (fun T507 X507 e507 => ?_)
   refine ownBy (A := T507.setTop (fr_add1 m b p1 q1 162 (.val (.int (1 : Int32))) .unset [(.ref b)])) (fun t kt => ?_) ?_
   ·refine XS.ifnonnullYes X507.here hx rfl (pc0 := 89) (pc' := 161) rfl (hb hby d7_89) rfl (by decide) (by decide) ?_
    refine XS.aloadN X507.here hx rfl (hb hby d7_161) rfl rfl ?_
    exact kt
   refine own_getF X507 hx hZ hown (host := "") (Or.inl (Wd64 hw)) Via.refl e507 Fs (hb hby d7_162) (fun T508 X508 e508 => ?_)
   refine ownBy (A := T508.setTop (fr_add1 m b p1 q1 166 (.val (.int (1 : Int32))) .unset [(.ref b), (.int (1 : Int32))])) (fun t kt => ?_) ?_
   ·refine XS.aloadN X508.here hx rfl (hb hby d7_165) rfl rfl ?_
    exact kt
   refine own_getF X508 hx hZ hown (host := "") (Or.inl (Wd35 hw)) Via.refl e508 Fy (hb hby d7_166) (fun T509 X509 e509 => ?_)
   obtain ⟨cl510, Ar510, -, S510, N510, -, -⟩ := id Ay
   have st510 := X509.arraylength hx (by rw [e509]; exact Ar510.1) (State.isArrayOf_alike hZ.alike Ar510.2.1) (g := (fr_add1 m b p1 q1 169 (.val (.int (1 : Int32))) .unset [(.ref y), (.int (1 : Int32))])) rfl rfl (hb hby d7_169)
   rw [len_of S510 N510] at st510
   refine ownBy st510 ?_
   show ownG p.tables e below _ (T509.setTop (fr_add1 m b p1 q1 170 (.val (.int (1 : Int32))) .unset [(.int (8 : Int32)), (.int (1 : Int32))]))
   refine ownBy (A := T509.setTop (fr_add1 m b p1 q1 277 (.val (.int (1 : Int32))) .unset [(.ref b)])) (fun t kt => ?_) ?_
   ·refine XS.icmpYes X509.here hx rfl (pc0 := 170) (pc' := 276) rfl (hb hby d7_170) rfl (feq ((by decide) : ¬ ((1 : Int32) = (8 : Int32)))).2 (by decide) (by decide) ?_
    refine XS.aloadN X509.here hx rfl (hb hby d7_276) rfl rfl ?_
    exact kt
   refine own_getF X509 hx hZ hown (host := "") (Or.inl (Wd35 hw)) Via.refl e509 Fy (hb hby d7_277) (fun T511 X511 e511 => ?_)
   refine ownBy (A := T511.setTop (fr_add1 m b p1 q1 283 (.val (.int (1 : Int32))) .unset [(.ref b), (.int (1 : Int32)), (.ref y)])) (fun t kt => ?_) ?_
   ·refine XS.iload X511.here hx rfl (hb hby d7_280) rfl ?_
    refine XS.aloadN X511.here hx rfl (hb hby d7_282) rfl rfl ?_
    exact kt
   refine own_getF X511 hx hZ hown (host := "") (Or.inl (Wd35 hw)) Via.refl e511 Fy (hb hby d7_283) (fun T512 X512 e512 => ?_)
   refine ownBy (A := T512.setTop (fr_add1 m b p1 q1 291 (.val (.int (1 : Int32))) .unset [(.ref b), (.int (2 : Int32)), (.ref y), (.int (1 : Int32)), (.ref y)])) (fun t kt => ?_) ?_
   ·refine XS.iload X512.here hx rfl (hb hby d7_286) rfl ?_
    refine XS.iconst X512.here hx rfl (hb hby d7_288) ?_
    refine XS.iadd X512.here hx rfl (hb hby d7_289) rfl ?_
    show Steps p.tables e below (T512.setTop (fr_add1 m b p1 q1 290 (.val (.int (1 : Int32))) .unset [(.int (2 : Int32)), (.ref y), (.int (1 : Int32)), (.ref y)])) t
    refine XS.aloadN X512.here hx rfl (hb hby d7_290) rfl rfl ?_
    exact kt
   refine own_getF X512 hx hZ hown (host := "") (Or.inl (Wd64 hw)) Via.refl e512 Fs (hb hby d7_291) (fun T513 X513 e513 => ?_)
   refine ownBy (A := T513.setTop (fr_add1 m b p1 q1 297 (.val (.int (1 : Int32))) .unset [(.int (0 : Int32)), (.int (2 : Int32)), (.ref y), (.int (1 : Int32)), (.ref y)])) (fun t kt => ?_) ?_
   ·refine XS.iload X513.here hx rfl (hb hby d7_294) rfl ?_
    refine XS.isub X513.here hx rfl (hb hby d7_296) rfl ?_
    exact kt
   obtain ⟨T514, h514, L514, X514, e514, Nq514, K514, A514, st514⟩ := cpA X513 hx hZ hown (Wd68 hw) (Wd71 hw) (Wd69 hw) (Wd70 hw) e513 Ay Ay (us := []) (Or.inl ⟨rfl, rfl⟩) (sp := (1 : Int32)) (dp := (2 : Int32)) (nn := (0 : Int32)) (by decide) (by decide) (by decide) (by decide) (by decide) rfl (oLe rfl) N0 gy (g := (fr_add1 m b p1 q1 297 (.val (.int (1 : Int32))) .unset [(.int (0 : Int32)), (.int (2 : Int32)), (.ref y), (.int (1 : Int32)), (.ref y)])) rfl (by rw [hml]; rfl) rfl (hb hby d7_297) (by decide) (W := 0) (by show 2 * 0 + _ ≤ _; exact Nat.le_of_eq rfl) (by decide)
   have V515 : Arv Z h514 y ky .int (8 : Int32) [(.int z0), (.int (0 : Int32)), (.int (0 : Int32)), (.int (0 : Int32)), (.int (0 : Int32)), (.int (0 : Int32)), (.int (0 : Int32)), (.int (0 : Int32))] (.int (0 : Int32)) := A514
   refine ownBy st514 ?_
   clear st514
   show ownG p.tables e below _ (T514.setTop (fr_add1 m b p1 q1 300 (.val (.int (1 : Int32))) .unset []))
   refine ownBy (A := T514.setTop (fr_add1 m b p1 q1 301 (.val (.int (1 : Int32))) .unset [(.ref b)])) (fun t kt => ?_) ?_
   ·refine XS.aloadN X514.here hx rfl (hb hby d7_300) rfl rfl ?_
    exact kt
   have f517 := (Fh.keep K514 (ninS ne490 nin0))
   refine own_getF X514 hx hZ hown (host := "") (Or.inl (Wd39 hw)) Via.refl e514 f517 (hb hby d7_301) (fun T516 X516 e516 => ?_)
   refine ownBy (A := T516.setTop (fr_add1 m b p1 q1 307 (.val (.int (1 : Int32))) .unset [(.ref b), (.int (1 : Int32)), (.ref hh)])) (fun t kt => ?_) ?_
   ·refine XS.iload X516.here hx rfl (hb hby d7_304) rfl ?_
    refine XS.aloadN X516.here hx rfl (hb hby d7_306) rfl rfl ?_
    exact kt
   refine own_getF X516 hx hZ hown (host := "") (Or.inl (Wd39 hw)) Via.refl e516 f517 (hb hby d7_307) (fun T518 X518 e518 => ?_)
   refine ownBy (A := T518.setTop (fr_add1 m b p1 q1 315 (.val (.int (1 : Int32))) .unset [(.ref b), (.int (2 : Int32)), (.ref hh), (.int (1 : Int32)), (.ref hh)])) (fun t kt => ?_) ?_
   ·refine XS.iload X518.here hx rfl (hb hby d7_310) rfl ?_
    refine XS.iconst X518.here hx rfl (hb hby d7_312) ?_
    refine XS.iadd X518.here hx rfl (hb hby d7_313) rfl ?_
    show Steps p.tables e below (T518.setTop (fr_add1 m b p1 q1 314 (.val (.int (1 : Int32))) .unset [(.int (2 : Int32)), (.ref hh), (.int (1 : Int32)), (.ref hh)])) t
    refine XS.aloadN X518.here hx rfl (hb hby d7_314) rfl rfl ?_
    exact kt
   have f520 := (Fs.keep K514 (ninS ne490 nin0))
   refine own_getF X518 hx hZ hown (host := "") (Or.inl (Wd64 hw)) Via.refl e518 f520 (hb hby d7_315) (fun T519 X519 e519 => ?_)
   refine ownBy (A := T519.setTop (fr_add1 m b p1 q1 321 (.val (.int (1 : Int32))) .unset [(.int (0 : Int32)), (.int (2 : Int32)), (.ref hh), (.int (1 : Int32)), (.ref hh)])) (fun t kt => ?_) ?_
   ·refine XS.iload X519.here hx rfl (hb hby d7_318) rfl ?_
    refine XS.isub X519.here hx rfl (hb hby d7_320) rfl ?_
    exact kt
   have f522 := (Ah.keep K514 (ninS (Ne.symm ne494) nin0))
   obtain ⟨T521, h521, L521, X521, e521, Nq521, K521, A521, st521⟩ := cpA X519 hx hZ hown (Wd68 hw) (Wd71 hw) (Wd69 hw) (Wd70 hw) e519 f522 f522 (us := []) (Or.inr ⟨rfl, rfl, trivial⟩) (sp := (1 : Int32)) (dp := (2 : Int32)) (nn := (0 : Int32)) (by decide) (by decide) (by decide) (by decide) (by decide) rfl (oLe rfl) Nq514 gh (g := (fr_add1 m b p1 q1 321 (.val (.int (1 : Int32))) .unset [(.int (0 : Int32)), (.int (2 : Int32)), (.ref hh), (.int (1 : Int32)), (.ref hh)])) rfl (by rw [hml]; rfl) rfl (hb hby d7_321) (by decide) (W := 0) (by show 2 * 0 + _ ≤ _; exact Nat.le_of_eq rfl) (by decide)
   have V523 : Arv Z h521 hh kh (.object "java/math/BigDecimal") (8 : Int32) [.null, .null, .null, .null, .null, .null, .null, .null] .null := A521
   refine ownBy st521 ?_
   clear st521
   show ownG p.tables e below _ (T521.setTop (fr_add1 m b p1 q1 324 (.val (.int (1 : Int32))) .unset []))
   refine ownBy (A := T521.setTop (fr_add1 m b p1 q1 325 (.val (.int (1 : Int32))) .unset [(.ref b)])) (fun t kt => ?_) ?_
   ·refine XS.aloadN X521.here hx rfl (hb hby d7_324) rfl rfl ?_
    exact kt
   have f525 := ((Fy.keep K514 (ninS ne490 nin0)).keep K521 (ninS ne491 nin0))
   refine own_getF X521 hx hZ hown (host := "") (Or.inl (Wd35 hw)) Via.refl e521 f525 (hb hby d7_325) (fun T524 X524 e524 => ?_)
   refine ownBy (A := T524.setTop (fr_add1 m b p1 q1 331 (.val (.int (1 : Int32))) .unset [(.int p1), (.int (1 : Int32)), (.ref y)])) (fun t kt => ?_) ?_
   ·refine XS.iload X524.here hx rfl (hb hby d7_328) rfl ?_
    refine XS.iloadN X524.here hx rfl (hb hby d7_330) rfl ?_
    exact kt
   have f526 := (V515.keep K521 (ninS ne494 nin0))
   obtain ⟨cl527, Ar527, q527, S527, N527, H527, G527⟩ := id f526
   have hin527 : ¬ ((1 : Int32) < 0 ∨ cl527.slots.size ≤ ((1 : Int32)).toNatClampNeg) := inb_of S527 ⟨by decide, by decide⟩
   obtain ⟨T527, h527, X527, e527, W527, st527⟩ := stI X524 hx hZ e524 Ar527 (j := (1 : Int32)) hin527 (g := (fr_add1 m b p1 q1 331 (.val (.int (1 : Int32))) .unset [(.int p1), (.int (1 : Int32)), (.ref y)])) rfl rfl (hb hby d7_331)
   have V528 : Arv Z h527 y ky .int (8 : Int32) [(.int z0), (.int p1), (.int (0 : Int32)), (.int (0 : Int32)), (.int (0 : Int32)), (.int (0 : Int32)), (.int (0 : Int32)), (.int (0 : Int32))] (.int (0 : Int32)) := Arv.set Ar527 q527 S527 N527 H527 G527 rfl W527 1 rfl (oLe rfl)
   clear hin527 G527 H527 N527 S527 q527 Ar527 cl527 f526
   have N529 := Fr.snoc X527 Nq521 gy
   obtain ⟨Lh530, Xh530, Nh530⟩ := oHd 0 0 X527 N529 rfl rfl
   refine ownBy st527 ?_
   clear st527
   show ownG p.tables e below _ (T527.setTop (fr_add1 m b p1 q1 332 (.val (.int (1 : Int32))) .unset []))
   refine ownBy (A := T527.setTop (fr_add1 m b p1 q1 333 (.val (.int (1 : Int32))) .unset [(.ref b)])) (fun t kt => ?_) ?_
   ·refine XS.aloadN Xh530.here hx rfl (hb hby d7_332) rfl rfl ?_
    exact kt
   have f532 := ((f517.keep K521 (ninS ne491 nin0)).other W527 (Or.inl ne490))
   refine own_getF Xh530 hx hZ hown (host := "") (Or.inl (Wd39 hw)) Via.refl e527 f532 (hb hby d7_333) (fun T531 X531 e531 => ?_)
   refine ownBy (A := T531.setTop (fr_add1 m b p1 q1 339 (.val (.int (1 : Int32))) .unset [.null, (.int (1 : Int32)), (.ref hh)])) (fun t kt => ?_) ?_
   ·refine XS.iload X531.here hx rfl (hb hby d7_336) rfl ?_
    refine XS.aloadN X531.here hx rfl (hb hby d7_338) rfl rfl ?_
    exact kt
   have f533 := (V523.other W527 (Ne.symm ne494))
   obtain ⟨cl534, Ar534, q534, S534, N534, H534, G534⟩ := id f533
   have hin534 : ¬ ((1 : Int32) < 0 ∨ cl534.slots.size ≤ ((1 : Int32)).toNatClampNeg) := inb_of S534 ⟨by decide, by decide⟩
   obtain ⟨T534, h534, X534, e534, W534, st534⟩ := stR X531 hx hZ e531 Ar534 (j := (1 : Int32)) hin534 rfl (Or.inl rfl) (g := (fr_add1 m b p1 q1 339 (.val (.int (1 : Int32))) .unset [.null, (.int (1 : Int32)), (.ref hh)])) rfl rfl (hb hby d7_339)
   have V535 : Arv Z h534 hh kh (.object "java/math/BigDecimal") (8 : Int32) [.null, .null, .null, .null, .null, .null, .null, .null] .null := Arv.set Ar534 q534 S534 N534 H534 G534 rfl W534 1 rfl (oLe rfl)
   have N536 := Fr.snoc X534 Nh530 gh
   obtain ⟨Lh537, Xh537, Nh537⟩ := oHd 0 0 X534 N536 rfl rfl
   refine ownBy st534 ?_
   clear st534
   show ownG p.tables e below _ (T534.setTop (fr_add1 m b p1 q1 340 (.val (.int (1 : Int32))) .unset []))
   refine ownBy (A := T534.setTop (fr_add1 m b p1 q1 341 (.val (.int (1 : Int32))) .unset [(.ref b)])) (fun t kt => ?_) ?_
   ·refine XS.aloadN Xh537.here hx rfl (hb hby d7_340) rfl rfl ?_
    exact kt
   have f539 := ((((Fl.keep K514 (ninS ne490 nin0)).keep K521 (ninS ne491 nin0)).other W527 (Or.inl ne490)).other W534 (Or.inl ne491))
   refine own_getF Xh537 hx hZ hown (host := "") (Or.inl (Wd72 hw)) Via.refl e534 f539 (hb hby d7_341) (fun T538 X538 e538 => ?_)
   refine ownBy (A := T538.setTop (fr_add1 m b p1 q1 348 (.val (.int (1 : Int32))) .unset [(.ref b)])) (fun t kt => ?_) ?_
   ·refine XS.ifnullNo X538.here hx rfl (hb hby d7_344) rfl ?_
    refine XS.aloadN X538.here hx rfl (hb hby d7_347) rfl rfl ?_
    exact kt
   refine own_getF X538 hx hZ hown (host := "") (Or.inl (Wd72 hw)) Via.refl e538 f539 (hb hby d7_348) (fun T540 X540 e540 => ?_)
   refine ownBy (A := T540.setTop (fr_add1 m b p1 q1 354 (.val (.int (1 : Int32))) .unset [(.ref b), (.int (1 : Int32)), (.ref ln)])) (fun t kt => ?_) ?_
   ·refine XS.iload X540.here hx rfl (hb hby d7_351) rfl ?_
    refine XS.aloadN X540.here hx rfl (hb hby d7_353) rfl rfl ?_
    exact kt
   refine own_getF X540 hx hZ hown (host := "") (Or.inl (Wd72 hw)) Via.refl e540 f539 (hb hby d7_354) (fun T541 X541 e541 => ?_)
   refine ownBy (A := T541.setTop (fr_add1 m b p1 q1 362 (.val (.int (1 : Int32))) .unset [(.ref b), (.int (2 : Int32)), (.ref ln), (.int (1 : Int32)), (.ref ln)])) (fun t kt => ?_) ?_
   ·refine XS.iload X541.here hx rfl (hb hby d7_357) rfl ?_
    refine XS.iconst X541.here hx rfl (hb hby d7_359) ?_
    refine XS.iadd X541.here hx rfl (hb hby d7_360) rfl ?_
    show Steps p.tables e below (T541.setTop (fr_add1 m b p1 q1 361 (.val (.int (1 : Int32))) .unset [(.int (2 : Int32)), (.ref ln), (.int (1 : Int32)), (.ref ln)])) t
    refine XS.aloadN X541.here hx rfl (hb hby d7_361) rfl rfl ?_
    exact kt
   have f543 := (((f520.keep K521 (ninS ne491 nin0)).other W527 (Or.inl ne490)).other W534 (Or.inl ne491))
   refine own_getF X541 hx hZ hown (host := "") (Or.inl (Wd64 hw)) Via.refl e541 f543 (hb hby d7_362) (fun T542 X542 e542 => ?_)
   refine ownBy (A := T542.setTop (fr_add1 m b p1 q1 368 (.val (.int (1 : Int32))) .unset [(.int (0 : Int32)), (.int (2 : Int32)), (.ref ln), (.int (1 : Int32)), (.ref ln)])) (fun t kt => ?_) ?_
   ·refine XS.iload X542.here hx rfl (hb hby d7_365) rfl ?_
    refine XS.isub X542.here hx rfl (hb hby d7_367) rfl ?_
    exact kt
   have f545 := ((((Al.keep K514 (ninS (Ne.symm ne496) nin0)).keep K521 (ninS (Ne.symm ne498) nin0)).other W527 (Ne.symm ne496)).other W534 (Ne.symm ne498))
   obtain ⟨T544, h544, L544, X544, e544, Nq544, K544, A544, st544⟩ := cpA X542 hx hZ hown (Wd68 hw) (Wd71 hw) (Wd69 hw) (Wd70 hw) e542 f545 f545 (us := []) (Or.inl ⟨rfl, rfl⟩) (sp := (1 : Int32)) (dp := (2 : Int32)) (nn := (0 : Int32)) (by decide) (by decide) (by decide) (by decide) (by decide) rfl (oLe rfl) Nh537 gl (g := (fr_add1 m b p1 q1 368 (.val (.int (1 : Int32))) .unset [(.int (0 : Int32)), (.int (2 : Int32)), (.ref ln), (.int (1 : Int32)), (.ref ln)])) rfl (by rw [hml]; rfl) rfl (hb hby d7_368) (by decide) (W := 0) (by show 2 * 0 + _ ≤ _; exact Nat.le_of_eq rfl) (by decide)
   have V546 : Arv Z h544 ln kl .long (8 : Int32) [(.long m0), (.long (0 : Int64)), (.long (0 : Int64)), (.long (0 : Int64)), (.long (0 : Int64)), (.long (0 : Int64)), (.long (0 : Int64)), (.long (0 : Int64))] (.long (0 : Int64)) := A544
   refine ownBy st544 ?_
   clear st544
   show ownG p.tables e below _ (T544.setTop (fr_add1 m b p1 q1 371 (.val (.int (1 : Int32))) .unset []))
   refine ownBy (A := T544.setTop (fr_add1 m b p1 q1 372 (.val (.int (1 : Int32))) .unset [(.ref b)])) (fun t kt => ?_) ?_
   ·refine XS.aloadN X544.here hx rfl (hb hby d7_371) rfl rfl ?_
    exact kt
   have f548 := (f539.keep K544 (ninS ne493 nin0))
   refine own_getF X544 hx hZ hown (host := "") (Or.inl (Wd72 hw)) Via.refl e544 f548 (hb hby d7_372) (fun T547 X547 e547 => ?_)
   refine ownBy (A := T547.setTop (fr_add1 m b p1 q1 379 (.val (.int (1 : Int32))) .unset [(.long q1), (.int (1 : Int32)), (.ref ln)])) (fun t kt => ?_) ?_
   ·refine XS.iload X547.here hx rfl (hb hby d7_375) rfl ?_
    refine XS.lload X547.here hx rfl (hb hby d7_377) rfl ?_
    exact kt
   obtain ⟨cl549, Ar549, q549, S549, N549, H549, G549⟩ := id V546
   have hin549 : ¬ ((1 : Int32) < 0 ∨ cl549.slots.size ≤ ((1 : Int32)).toNatClampNeg) := inb_of S549 ⟨by decide, by decide⟩
   obtain ⟨T549, h549, X549, e549, W549, st549⟩ := stJ X547 hx hZ e547 Ar549 (j := (1 : Int32)) hin549 (g := (fr_add1 m b p1 q1 379 (.val (.int (1 : Int32))) .unset [(.long q1), (.int (1 : Int32)), (.ref ln)])) rfl rfl (hb hby d7_379)
   have V550 : Arv Z h549 ln kl .long (8 : Int32) [(.long m0), (.long q1), (.long (0 : Int64)), (.long (0 : Int64)), (.long (0 : Int64)), (.long (0 : Int64)), (.long (0 : Int64)), (.long (0 : Int64))] (.long (0 : Int64)) := Arv.set Ar549 q549 S549 N549 H549 G549 rfl W549 1 rfl (oLe rfl)
   clear hin549 G549 H549 N549 S549 q549 Ar549 cl549 V546
   have N551 := Fr.snoc X549 Nq544 gl
   obtain ⟨Lh552, Xh552, Nh552⟩ := oHd 0 0 X549 N551 rfl rfl
   refine ownBy st549 ?_
   clear st549
   show ownG p.tables e below _ (T549.setTop (fr_add1 m b p1 q1 380 (.val (.int (1 : Int32))) .unset []))
   refine ownBy (A := T549.setTop (fr_add1 m b p1 q1 386 (.val (.int (1 : Int32))) (.val (.int (0 : Int32))) [(.ref b), (.int (0 : Int32))])) (fun t kt => ?_) ?_
   ·refine XS.iconst Xh552.here hx rfl (hb hby d7_380) ?_
    refine XS.istore Xh552.here hx rfl (hb hby d7_381) rfl (l' := #[.val (.ref b), .val (.int p1), .val .null, .val .null, .val (.long q1), .second, .val (.int (1 : Int32)), .val (.int (0 : Int32)), .unset]) rfl ?_
    refine XS.iload Xh552.here hx rfl (hb hby d7_383) rfl ?_
    show Steps p.tables e below (T549.setTop (fr_add1 m b p1 q1 385 (.val (.int (1 : Int32))) (.val (.int (0 : Int32))) [(.int (0 : Int32))])) t
    refine XS.aloadN Xh552.here hx rfl (hb hby d7_385) rfl rfl ?_
    exact kt
   have f554 := ((((((Fn.keep K514 (ninS ne490 nin0)).keep K521 (ninS ne491 nin0)).other W527 (Or.inl ne490)).other W534 (Or.inl ne491)).keep K544 (ninS ne493 nin0)).other W549 (Or.inl ne493))
   refine own_getF Xh552 hx hZ hown (host := "") (Or.inl (Wd57 hw)) Via.refl e549 f554 (hb hby d7_386) (fun T553 X553 e553 => ?_)
   have f555 := ((((((An.keep K514 (ninS (Ne.symm ne495) nin0)).keep K521 (ninS (Ne.symm ne497) nin0)).other W527 (Ne.symm ne495)).other W534 (Ne.symm ne497)).keep K544 (ninS ne499 nin0)).other W549 ne499)
   obtain ⟨cl556, Ar556, -, S556, N556, -, -⟩ := id f555
   have st556 := X553.arraylength hx (by rw [e553]; exact Ar556.1) (State.isArrayOf_alike hZ.alike Ar556.2.1) (g := (fr_add1 m b p1 q1 389 (.val (.int (1 : Int32))) (.val (.int (0 : Int32))) [(.ref nn), (.int (0 : Int32))])) rfl rfl (hb hby d7_389)
   rw [len_of S556 N556] at st556
   refine ownBy st556 ?_
   show ownG p.tables e below _ (T553.setTop (fr_add1 m b p1 q1 390 (.val (.int (1 : Int32))) (.val (.int (0 : Int32))) [(.int (0 : Int32)), (.int (0 : Int32))]))
   refine ownBy (A := T553.setTop (fr_add1 m b p1 q1 463 (.val (.int (1 : Int32))) (.val (.int (0 : Int32))) [(.ref b), (.ref b)])) (fun t kt => ?_) ?_
   ·refine XS.icmpYes X553.here hx rfl (pc0 := 390) (pc' := 461) rfl (hb hby d7_390) rfl (flt ((by decide) : ¬ ((0 : Int32) < (0 : Int32)))).2.1 (by decide) (by decide) ?_
    refine XS.aloadN X553.here hx rfl (hb hby d7_461) rfl rfl ?_
    refine XS.dup X553.here hx rfl (hb hby d7_462) rfl rfl ?_
    exact kt
   have f558 := ((f543.keep K544 (ninS ne493 nin0)).other W549 (Or.inl ne493))
   refine own_getF X553 hx hZ hown (host := "") (Or.inl (Wd64 hw)) Via.refl e553 f558 (hb hby d7_463) (fun T557 X557 e557 => ?_)
   refine ownBy (A := T557.setTop (fr_add1 m b p1 q1 468 (.val (.int (1 : Int32))) (.val (.int (0 : Int32))) [(.int (2 : Int32)), (.ref b)])) (fun t kt => ?_) ?_
   ·refine XS.iconst X557.here hx rfl (hb hby d7_466) ?_
    refine XS.iadd X557.here hx rfl (hb hby d7_467) rfl ?_
    exact kt
   have f560 := ((((((E1.keep K514).keep K521).wr W527).wr W534).keep K544).wr W549)
   obtain ⟨T559, h559, X559, e559, W559, st559⟩ := putF X557 hx hZ hown (host := "") (Or.inl (Wd64 hw)) Via.refl e557 f558 f560 (Or.inl (Wd65 hw)) (Wd3 hw) (ty := .int) (by decide) rfl rfl (g := (fr_add1 m b p1 q1 468 (.val (.int (1 : Int32))) (.val (.int (0 : Int32))) [(.int (2 : Int32)), (.ref b)])) rfl rfl (hb hby d7_468)
   have F561 := f558.same W559
   have N562 := Fr.snoc X559 Nh552 gb
   obtain ⟨Lh563, Xh563, Nh563⟩ := oHd 0 0 X559 N562 rfl rfl
   refine ownBy st559 ?_
   clear st559
   show ownG p.tables e below _ (T559.setTop (fr_add1 m b p1 q1 471 (.val (.int (1 : Int32))) (.val (.int (0 : Int32))) []))
   have f564 := (V550.other W559 (Ne.symm ne493))
   have f566 := (f560.wr W559)
   have f567 := (((((f525.other W527 (Or.inl ne490)).other W534 (Or.inl ne491)).keep K544 (ninS ne493 nin0)).other W549 (Or.inl ne493)).other W559 (Or.inr (slot_ne (Or.inl (Wd36 hw)) (Or.inl (Wd65 hw)) (by decide) (t := (.array .int)) (t' := .int) (by decide) (by decide))))
   have f568 := ((((f532.other W534 (Or.inl ne491)).keep K544 (ninS ne493 nin0)).other W549 (Or.inl ne493)).other W559 (Or.inr (slot_ne (Or.inl (Wd40 hw)) (Or.inl (Wd65 hw)) (by decide) (t := (.array (.object "java/math/BigDecimal"))) (t' := .int) (by decide) (by decide))))
   have f569 := (f554.other W559 (Or.inr (slot_ne (Or.inr (Wd58 hw)) (Or.inl (Wd65 hw)) (by decide) (t := (.array (.array .long))) (t' := .int) (by decide) (by decide))))
   have f570 := (((((((Ff.keep K514 (ninS ne490 nin0)).keep K521 (ninS ne491 nin0)).other W527 (Or.inl ne490)).other W534 (Or.inl ne491)).keep K544 (ninS ne493 nin0)).other W549 (Or.inl ne493)).other W559 (Or.inr (slot_ne (Or.inl (Wd67 hw)) (Or.inl (Wd65 hw)) (by decide) (t := .long) (t' := .int) (by decide) (by decide))))
   have f571 := ((f548.other W549 (Or.inl ne493)).other W559 (Or.inr (slot_ne (Or.inl (Wd73 hw)) (Or.inl (Wd65 hw)) (by decide) (t := (.array .long)) (t' := .int) (by decide) (by decide))))
   have f572 := ((((V528.other W534 ne494).keep K544 (ninS ne496 nin0)).other W549 ne496).other W559 (Ne.symm ne490))
   have f573 := (((V535.keep K544 (ninS ne498 nin0)).other W549 ne498).other W559 (Ne.symm ne491))
   have f574 := (f555.other W559 (Ne.symm ne492))
   have f575 := (Nat.le_trans (Nat.le_trans (Nat.le_trans (Nat.le_trans (Nat.le_trans (Nat.le_trans (Nat.le_trans (Nat.le_refl h0.size) K514.1) K521.1) (Keep.of_wr W527).1) (Keep.of_wr W534).1) K544.1) (Keep.of_wr W549).1) (Keep.of_wr W559).1)
   refine ownRet Xh563 Bd.notSynchronized (v := none) (fun _ => rfl) ?_ (oLe rfl) (oLe rfl) (fun fs hr => Xh563.returnOut hx Bd.returns (hb hby d7_471) hr)
   show (Q_add1 Z b y hh nn ky kh kn z0 m0 f1 lv p1 q1 h0 n0) (none) T559.heap _
   rw [e559]
   have V565 := f564
   exact ⟨rfl, Nh563, f575, z0, p1, m0, q1, f1, (.ref ln), hc505, Or.inr (⟨rfl, rfl, rfl, rfl⟩), f566, f567, f568, f569, F561, f570, f571, f572, f573, f574, Or.inr ⟨ln, kl, rfl, gl, V565⟩⟩
  ·skip
   refine ownBy (A := T503.setTop (fr_add1 m b p1 q1 29 (.val (.int (1 : Int32))) .unset [(.ref b)])) (fun t kt => ?_) ?_
   ·refine XS.icmpNo X503.here hx rfl (hb hby d7_25) rfl (flt hc505).1 ?_
    refine XS.aloadN X503.here hx rfl (hb hby d7_28) rfl rfl ?_
    exact kt
   refine own_getF X503 hx hZ hown (host := "") (Or.inl (Wd35 hw)) Via.refl e503 Fy (hb hby d7_29) (fun T576 X576 e576 => ?_)
   refine ownBy (A := T576.setTop (fr_add1 m b p1 q1 34 (.val (.int (1 : Int32))) .unset [(.ref b), (.int (0 : Int32)), (.ref y)])) (fun t kt => ?_) ?_
   ·refine XS.iconst X576.here hx rfl (hb hby d7_32) ?_
    refine XS.aloadN X576.here hx rfl (hb hby d7_33) rfl rfl ?_
    exact kt
   refine own_getF X576 hx hZ hown (host := "") (Or.inl (Wd64 hw)) Via.refl e576 Fs (hb hby d7_34) (fun T577 X577 e577 => ?_)
   refine ownBy (A := T577.setTop (fr_add1 m b p1 q1 38 (.val (.int (1 : Int32))) .unset [(.int p1), (.int (1 : Int32)), (.int (0 : Int32)), (.ref y)])) (fun t kt => ?_) ?_
   ·refine XS.iloadN X577.here hx rfl (hb hby d7_37) rfl ?_
    exact kt
   obtain ⟨vv578, _, ⟨T578, L578, k578, n578⟩, -, X578, ⟨Lc578, hQ578, l578, y578, z578⟩, st578⟩ := Jvm.LawKit.callS X577 hx (y := (⟨"java/util/Arrays", "binarySearch", "([IIII)I"⟩ : MethodName)) hown (mvT hZ (Wd79 hw)) (mvT hZ (Wd80 hw)) (mvT hZ (Wd81 hw)) (mvT hZ (Wd82 hw)) (by decide) (backOf (W := 0) (c_bs1 l Z a0 hw [] y ky z0 p1 h0 n0 Z0 Ay) hZ (Wd82 hw) (Wd81 hw) (by decide) (by decide)) (g := (fr_add1 m b p1 q1 38 (.val (.int (1 : Int32))) .unset [(.int p1), (.int (1 : Int32)), (.int (0 : Int32)), (.ref y)])) rfl (by rw [hml]; rfl) (argsL := [(.ref y), (.int (0 : Int32)), (.int (1 : Int32)), (.int p1)]) (rest := []) (lenOf pd_11 rfl) rfl (by show 2 * 0 + _ ≤ _; exact Nat.le_of_eq rfl) (hb hby d7_38) (fun _ _ => ⟨rfl, e577, (by decide : 0 + 0 ≤ _), (by decide : 0 + 0 ≤ _)⟩)
   dsimp only [Pt.U, Pt.locs, Pt.cells, Pt.slots] at X578 l578 y578 z578 st578 hQ578
   subst l578 y578 z578
   obtain ⟨r578, rfl, Nq578, Eq578, hB578⟩ := hQ578
   rcases hB578 with ⟨hb578_0_0, rfl⟩ | ⟨hb578_1_0, hb578_1_1, rfl⟩ | ⟨hb578_2_0, hb578_2_1, rfl⟩
   ·skip
    exfalso
    simp only [Int32.lt_iff_toInt_lt, ← Int32.toInt_inj] at hb578_0_0 hc505
    omega
   ·skip
    have N579 := Fr.app N0 Nq578
    obtain ⟨Lh580, Xh580, Nh580⟩ := oHd 0 0 X578 N579 rfl rfl
    refine ownBy st578 ?_
    clear st578
    show ownG p.tables e below _ (T578.setTop (fr_add1 m b p1 q1 41 (.val (.int (1 : Int32))) .unset [(.int (-1 : Int32))]))
    refine ownBy (A := T578.setTop (fr_add1 m b p1 q1 70 (.val (.int (0 : Int32))) .unset [(.ref b)])) (fun t kt => ?_) ?_
    ·refine XS.istore Xh580.here hx rfl (hb hby d7_41) rfl (l' := #[.val (.ref b), .val (.int p1), .val .null, .val .null, .val (.long q1), .second, .val (.int (-1 : Int32)), .unset, .unset]) rfl ?_
     refine XS.iload Xh580.here hx rfl (hb hby d7_43) rfl ?_
     refine XS.ifYes Xh580.here hx rfl (pc0 := 45) (pc' := 62) rfl (hb hby d7_45) rfl ((if0 _ _).trans (tlt ((by decide) : (-1 : Int32) < (0 : Int32))).1) (by decide) (by decide) ?_
     show Steps p.tables e below (T578.setTop (fr_add1 m b p1 q1 62 (.val (.int (-1 : Int32))) .unset [])) t
     refine XS.iload Xh580.here hx rfl (hb hby d7_62) rfl ?_
     refine XS.ineg Xh580.here hx rfl (hb hby d7_64) rfl ?_
     refine XS.iconst Xh580.here hx rfl (hb hby d7_65) ?_
     show Steps p.tables e below (T578.setTop (fr_add1 m b p1 q1 66 (.val (.int (-1 : Int32))) .unset [(.int (1 : Int32)), (.int (1 : Int32))])) t
     refine XS.isub Xh580.here hx rfl (hb hby d7_66) rfl ?_
     refine XS.istore Xh580.here hx rfl (hb hby d7_67) rfl (l' := #[.val (.ref b), .val (.int p1), .val .null, .val .null, .val (.long q1), .second, .val (.int (0 : Int32)), .unset, .unset]) rfl ?_
     refine XS.aloadN Xh580.here hx rfl (hb hby d7_69) rfl rfl ?_
     exact kt
    refine own_getF Xh580 hx hZ hown (host := "") (Or.inl (Wd64 hw)) Via.refl Eq578 Fs (hb hby d7_70) (fun T581 X581 e581 => ?_)
    refine ownBy (A := T581.setTop (fr_add1 m b p1 q1 86 (.val (.int (0 : Int32))) .unset [(.ref b)])) (fun t kt => ?_) ?_
    ·refine XS.ifYes X581.here hx rfl (pc0 := 73) (pc' := 85) rfl (hb hby d7_73) rfl ((if0 _ _).trans (feq ((by decide) : ¬ ((1 : Int32) = (0 : Int32)))).2) (by decide) (by decide) ?_
     refine XS.aloadN X581.here hx rfl (hb hby d7_85) rfl rfl ?_
     exact kt
    refine own_getF X581 hx hZ hown (host := "") (Or.inl (Wd72 hw)) Via.refl e581 Fl (hb hby d7_86) (fun T582 X582 e582 => ?_)
    refine ownBy (A := T582.setTop (fr_add1 m b p1 q1 162 (.val (.int (0 : Int32))) .unset [(.ref b)])) (fun t kt => ?_) ?_
    ·refine XS.ifnonnullYes X582.here hx rfl (pc0 := 89) (pc' := 161) rfl (hb hby d7_89) rfl (by decide) (by decide) ?_
     refine XS.aloadN X582.here hx rfl (hb hby d7_161) rfl rfl ?_
     exact kt
    refine own_getF X582 hx hZ hown (host := "") (Or.inl (Wd64 hw)) Via.refl e582 Fs (hb hby d7_162) (fun T583 X583 e583 => ?_)
    refine ownBy (A := T583.setTop (fr_add1 m b p1 q1 166 (.val (.int (0 : Int32))) .unset [(.ref b), (.int (1 : Int32))])) (fun t kt => ?_) ?_
    ·refine XS.aloadN X583.here hx rfl (hb hby d7_165) rfl rfl ?_
     exact kt
    refine own_getF X583 hx hZ hown (host := "") (Or.inl (Wd35 hw)) Via.refl e583 Fy (hb hby d7_166) (fun T584 X584 e584 => ?_)
    obtain ⟨cl585, Ar585, -, S585, N585, -, -⟩ := id Ay
    have st585 := X584.arraylength hx (by rw [e584]; exact Ar585.1) (State.isArrayOf_alike hZ.alike Ar585.2.1) (g := (fr_add1 m b p1 q1 169 (.val (.int (0 : Int32))) .unset [(.ref y), (.int (1 : Int32))])) rfl rfl (hb hby d7_169)
    rw [len_of S585 N585] at st585
    refine ownBy st585 ?_
    show ownG p.tables e below _ (T584.setTop (fr_add1 m b p1 q1 170 (.val (.int (0 : Int32))) .unset [(.int (8 : Int32)), (.int (1 : Int32))]))
    refine ownBy (A := T584.setTop (fr_add1 m b p1 q1 277 (.val (.int (0 : Int32))) .unset [(.ref b)])) (fun t kt => ?_) ?_
    ·refine XS.icmpYes X584.here hx rfl (pc0 := 170) (pc' := 276) rfl (hb hby d7_170) rfl (feq ((by decide) : ¬ ((1 : Int32) = (8 : Int32)))).2 (by decide) (by decide) ?_
     refine XS.aloadN X584.here hx rfl (hb hby d7_276) rfl rfl ?_
     exact kt
    refine own_getF X584 hx hZ hown (host := "") (Or.inl (Wd35 hw)) Via.refl e584 Fy (hb hby d7_277) (fun T586 X586 e586 => ?_)
    refine ownBy (A := T586.setTop (fr_add1 m b p1 q1 283 (.val (.int (0 : Int32))) .unset [(.ref b), (.int (0 : Int32)), (.ref y)])) (fun t kt => ?_) ?_
    ·refine XS.iload X586.here hx rfl (hb hby d7_280) rfl ?_
     refine XS.aloadN X586.here hx rfl (hb hby d7_282) rfl rfl ?_
     exact kt
    refine own_getF X586 hx hZ hown (host := "") (Or.inl (Wd35 hw)) Via.refl e586 Fy (hb hby d7_283) (fun T587 X587 e587 => ?_)
    refine ownBy (A := T587.setTop (fr_add1 m b p1 q1 291 (.val (.int (0 : Int32))) .unset [(.ref b), (.int (1 : Int32)), (.ref y), (.int (0 : Int32)), (.ref y)])) (fun t kt => ?_) ?_
    ·refine XS.iload X587.here hx rfl (hb hby d7_286) rfl ?_
     refine XS.iconst X587.here hx rfl (hb hby d7_288) ?_
     refine XS.iadd X587.here hx rfl (hb hby d7_289) rfl ?_
     show Steps p.tables e below (T587.setTop (fr_add1 m b p1 q1 290 (.val (.int (0 : Int32))) .unset [(.int (1 : Int32)), (.ref y), (.int (0 : Int32)), (.ref y)])) t
     refine XS.aloadN X587.here hx rfl (hb hby d7_290) rfl rfl ?_
     exact kt
    refine own_getF X587 hx hZ hown (host := "") (Or.inl (Wd64 hw)) Via.refl e587 Fs (hb hby d7_291) (fun T588 X588 e588 => ?_)
    refine ownBy (A := T588.setTop (fr_add1 m b p1 q1 297 (.val (.int (0 : Int32))) .unset [(.int (1 : Int32)), (.int (1 : Int32)), (.ref y), (.int (0 : Int32)), (.ref y)])) (fun t kt => ?_) ?_
    ·refine XS.iload X588.here hx rfl (hb hby d7_294) rfl ?_
     refine XS.isub X588.here hx rfl (hb hby d7_296) rfl ?_
     exact kt
    obtain ⟨T589, h589, L589, X589, e589, Nq589, K589, A589, st589⟩ := cpA X588 hx hZ hown (Wd68 hw) (Wd71 hw) (Wd69 hw) (Wd70 hw) e588 Ay Ay (us := [(.int z0)]) (Or.inl ⟨rfl, rfl⟩) (sp := (0 : Int32)) (dp := (1 : Int32)) (nn := (1 : Int32)) (by decide) (by decide) (by decide) (by decide) (by decide) rfl (oLe rfl) Nh580 gy (g := (fr_add1 m b p1 q1 297 (.val (.int (0 : Int32))) .unset [(.int (1 : Int32)), (.int (1 : Int32)), (.ref y), (.int (0 : Int32)), (.ref y)])) rfl (by rw [hml]; rfl) rfl (hb hby d7_297) (by decide) (W := 0) (by show 2 * 0 + _ ≤ _; exact Nat.le_of_eq rfl) (by decide)
    have V590 : Arv Z h589 y ky .int (8 : Int32) [(.int z0), (.int z0), (.int (0 : Int32)), (.int (0 : Int32)), (.int (0 : Int32)), (.int (0 : Int32)), (.int (0 : Int32)), (.int (0 : Int32))] (.int (0 : Int32)) := A589
    refine ownBy st589 ?_
    clear st589
    show ownG p.tables e below _ (T589.setTop (fr_add1 m b p1 q1 300 (.val (.int (0 : Int32))) .unset []))
    refine ownBy (A := T589.setTop (fr_add1 m b p1 q1 301 (.val (.int (0 : Int32))) .unset [(.ref b)])) (fun t kt => ?_) ?_
    ·refine XS.aloadN X589.here hx rfl (hb hby d7_300) rfl rfl ?_
     exact kt
    have f592 := (Fh.keep K589 (ninS ne490 nin0))
    refine own_getF X589 hx hZ hown (host := "") (Or.inl (Wd39 hw)) Via.refl e589 f592 (hb hby d7_301) (fun T591 X591 e591 => ?_)
    refine ownBy (A := T591.setTop (fr_add1 m b p1 q1 307 (.val (.int (0 : Int32))) .unset [(.ref b), (.int (0 : Int32)), (.ref hh)])) (fun t kt => ?_) ?_
    ·refine XS.iload X591.here hx rfl (hb hby d7_304) rfl ?_
     refine XS.aloadN X591.here hx rfl (hb hby d7_306) rfl rfl ?_
     exact kt
    refine own_getF X591 hx hZ hown (host := "") (Or.inl (Wd39 hw)) Via.refl e591 f592 (hb hby d7_307) (fun T593 X593 e593 => ?_)
    refine ownBy (A := T593.setTop (fr_add1 m b p1 q1 315 (.val (.int (0 : Int32))) .unset [(.ref b), (.int (1 : Int32)), (.ref hh), (.int (0 : Int32)), (.ref hh)])) (fun t kt => ?_) ?_
    ·refine XS.iload X593.here hx rfl (hb hby d7_310) rfl ?_
     refine XS.iconst X593.here hx rfl (hb hby d7_312) ?_
     refine XS.iadd X593.here hx rfl (hb hby d7_313) rfl ?_
     show Steps p.tables e below (T593.setTop (fr_add1 m b p1 q1 314 (.val (.int (0 : Int32))) .unset [(.int (1 : Int32)), (.ref hh), (.int (0 : Int32)), (.ref hh)])) t
     refine XS.aloadN X593.here hx rfl (hb hby d7_314) rfl rfl ?_
     exact kt
    have f595 := (Fs.keep K589 (ninS ne490 nin0))
    refine own_getF X593 hx hZ hown (host := "") (Or.inl (Wd64 hw)) Via.refl e593 f595 (hb hby d7_315) (fun T594 X594 e594 => ?_)
    refine ownBy (A := T594.setTop (fr_add1 m b p1 q1 321 (.val (.int (0 : Int32))) .unset [(.int (1 : Int32)), (.int (1 : Int32)), (.ref hh), (.int (0 : Int32)), (.ref hh)])) (fun t kt => ?_) ?_
    ·refine XS.iload X594.here hx rfl (hb hby d7_318) rfl ?_
     refine XS.isub X594.here hx rfl (hb hby d7_320) rfl ?_
     exact kt
    have f597 := (Ah.keep K589 (ninS (Ne.symm ne494) nin0))
    obtain ⟨T596, h596, L596, X596, e596, Nq596, K596, A596, st596⟩ := cpA X594 hx hZ hown (Wd68 hw) (Wd71 hw) (Wd69 hw) (Wd70 hw) e594 f597 f597 (us := [.null]) (Or.inr ⟨rfl, rfl, ⟨Or.inl rfl, trivial⟩⟩) (sp := (0 : Int32)) (dp := (1 : Int32)) (nn := (1 : Int32)) (by decide) (by decide) (by decide) (by decide) (by decide) rfl (oLe rfl) Nq589 gh (g := (fr_add1 m b p1 q1 321 (.val (.int (0 : Int32))) .unset [(.int (1 : Int32)), (.int (1 : Int32)), (.ref hh), (.int (0 : Int32)), (.ref hh)])) rfl (by rw [hml]; rfl) rfl (hb hby d7_321) (by decide) (W := 0) (by show 2 * 0 + _ ≤ _; exact Nat.le_of_eq rfl) (by decide)
    have V598 : Arv Z h596 hh kh (.object "java/math/BigDecimal") (8 : Int32) [.null, .null, .null, .null, .null, .null, .null, .null] .null := A596
    refine ownBy st596 ?_
    clear st596
    show ownG p.tables e below _ (T596.setTop (fr_add1 m b p1 q1 324 (.val (.int (0 : Int32))) .unset []))
    refine ownBy (A := T596.setTop (fr_add1 m b p1 q1 325 (.val (.int (0 : Int32))) .unset [(.ref b)])) (fun t kt => ?_) ?_
    ·refine XS.aloadN X596.here hx rfl (hb hby d7_324) rfl rfl ?_
     exact kt
    have f600 := ((Fy.keep K589 (ninS ne490 nin0)).keep K596 (ninS ne491 nin0))
    refine own_getF X596 hx hZ hown (host := "") (Or.inl (Wd35 hw)) Via.refl e596 f600 (hb hby d7_325) (fun T599 X599 e599 => ?_)
    refine ownBy (A := T599.setTop (fr_add1 m b p1 q1 331 (.val (.int (0 : Int32))) .unset [(.int p1), (.int (0 : Int32)), (.ref y)])) (fun t kt => ?_) ?_
    ·refine XS.iload X599.here hx rfl (hb hby d7_328) rfl ?_
     refine XS.iloadN X599.here hx rfl (hb hby d7_330) rfl ?_
     exact kt
    have f601 := (V590.keep K596 (ninS ne494 nin0))
    obtain ⟨cl602, Ar602, q602, S602, N602, H602, G602⟩ := id f601
    have hin602 : ¬ ((0 : Int32) < 0 ∨ cl602.slots.size ≤ ((0 : Int32)).toNatClampNeg) := inb_of S602 ⟨by decide, by decide⟩
    obtain ⟨T602, h602, X602, e602, W602, st602⟩ := stI X599 hx hZ e599 Ar602 (j := (0 : Int32)) hin602 (g := (fr_add1 m b p1 q1 331 (.val (.int (0 : Int32))) .unset [(.int p1), (.int (0 : Int32)), (.ref y)])) rfl rfl (hb hby d7_331)
    have V603 : Arv Z h602 y ky .int (8 : Int32) [(.int p1), (.int z0), (.int (0 : Int32)), (.int (0 : Int32)), (.int (0 : Int32)), (.int (0 : Int32)), (.int (0 : Int32)), (.int (0 : Int32))] (.int (0 : Int32)) := Arv.set Ar602 q602 S602 N602 H602 G602 rfl W602 0 rfl (oLe rfl)
    clear hin602 G602 H602 N602 S602 q602 Ar602 cl602 f601
    have N604 := Fr.snoc X602 Nq596 gy
    obtain ⟨Lh605, Xh605, Nh605⟩ := oHd 0 0 X602 N604 rfl rfl
    refine ownBy st602 ?_
    clear st602
    show ownG p.tables e below _ (T602.setTop (fr_add1 m b p1 q1 332 (.val (.int (0 : Int32))) .unset []))
    refine ownBy (A := T602.setTop (fr_add1 m b p1 q1 333 (.val (.int (0 : Int32))) .unset [(.ref b)])) (fun t kt => ?_) ?_
    ·refine XS.aloadN Xh605.here hx rfl (hb hby d7_332) rfl rfl ?_
     exact kt
    have f607 := ((f592.keep K596 (ninS ne491 nin0)).other W602 (Or.inl ne490))
    refine own_getF Xh605 hx hZ hown (host := "") (Or.inl (Wd39 hw)) Via.refl e602 f607 (hb hby d7_333) (fun T606 X606 e606 => ?_)
    refine ownBy (A := T606.setTop (fr_add1 m b p1 q1 339 (.val (.int (0 : Int32))) .unset [.null, (.int (0 : Int32)), (.ref hh)])) (fun t kt => ?_) ?_
    ·refine XS.iload X606.here hx rfl (hb hby d7_336) rfl ?_
     refine XS.aloadN X606.here hx rfl (hb hby d7_338) rfl rfl ?_
     exact kt
    have f608 := (V598.other W602 (Ne.symm ne494))
    obtain ⟨cl609, Ar609, q609, S609, N609, H609, G609⟩ := id f608
    have hin609 : ¬ ((0 : Int32) < 0 ∨ cl609.slots.size ≤ ((0 : Int32)).toNatClampNeg) := inb_of S609 ⟨by decide, by decide⟩
    obtain ⟨T609, h609, X609, e609, W609, st609⟩ := stR X606 hx hZ e606 Ar609 (j := (0 : Int32)) hin609 rfl (Or.inl rfl) (g := (fr_add1 m b p1 q1 339 (.val (.int (0 : Int32))) .unset [.null, (.int (0 : Int32)), (.ref hh)])) rfl rfl (hb hby d7_339)
    have V610 : Arv Z h609 hh kh (.object "java/math/BigDecimal") (8 : Int32) [.null, .null, .null, .null, .null, .null, .null, .null] .null := Arv.set Ar609 q609 S609 N609 H609 G609 rfl W609 0 rfl (oLe rfl)
    have N611 := Fr.snoc X609 Nh605 gh
    obtain ⟨Lh612, Xh612, Nh612⟩ := oHd 0 0 X609 N611 rfl rfl
    refine ownBy st609 ?_
    clear st609
    show ownG p.tables e below _ (T609.setTop (fr_add1 m b p1 q1 340 (.val (.int (0 : Int32))) .unset []))
    refine ownBy (A := T609.setTop (fr_add1 m b p1 q1 341 (.val (.int (0 : Int32))) .unset [(.ref b)])) (fun t kt => ?_) ?_
    ·refine XS.aloadN Xh612.here hx rfl (hb hby d7_340) rfl rfl ?_
     exact kt
    have f614 := ((((Fl.keep K589 (ninS ne490 nin0)).keep K596 (ninS ne491 nin0)).other W602 (Or.inl ne490)).other W609 (Or.inl ne491))
    refine own_getF Xh612 hx hZ hown (host := "") (Or.inl (Wd72 hw)) Via.refl e609 f614 (hb hby d7_341) (fun T613 X613 e613 => ?_)
    refine ownBy (A := T613.setTop (fr_add1 m b p1 q1 348 (.val (.int (0 : Int32))) .unset [(.ref b)])) (fun t kt => ?_) ?_
    ·refine XS.ifnullNo X613.here hx rfl (hb hby d7_344) rfl ?_
     refine XS.aloadN X613.here hx rfl (hb hby d7_347) rfl rfl ?_
     exact kt
    refine own_getF X613 hx hZ hown (host := "") (Or.inl (Wd72 hw)) Via.refl e613 f614 (hb hby d7_348) (fun T615 X615 e615 => ?_)
    refine ownBy (A := T615.setTop (fr_add1 m b p1 q1 354 (.val (.int (0 : Int32))) .unset [(.ref b), (.int (0 : Int32)), (.ref ln)])) (fun t kt => ?_) ?_
    ·refine XS.iload X615.here hx rfl (hb hby d7_351) rfl ?_
     refine XS.aloadN X615.here hx rfl (hb hby d7_353) rfl rfl ?_
     exact kt
    refine own_getF X615 hx hZ hown (host := "") (Or.inl (Wd72 hw)) Via.refl e615 f614 (hb hby d7_354) (fun T616 X616 e616 => ?_)
    refine ownBy (A := T616.setTop (fr_add1 m b p1 q1 362 (.val (.int (0 : Int32))) .unset [(.ref b), (.int (1 : Int32)), (.ref ln), (.int (0 : Int32)), (.ref ln)])) (fun t kt => ?_) ?_
    ·refine XS.iload X616.here hx rfl (hb hby d7_357) rfl ?_
     refine XS.iconst X616.here hx rfl (hb hby d7_359) ?_
     refine XS.iadd X616.here hx rfl (hb hby d7_360) rfl ?_
     show Steps p.tables e below (T616.setTop (fr_add1 m b p1 q1 361 (.val (.int (0 : Int32))) .unset [(.int (1 : Int32)), (.ref ln), (.int (0 : Int32)), (.ref ln)])) t
     refine XS.aloadN X616.here hx rfl (hb hby d7_361) rfl rfl ?_
     exact kt
    have f618 := (((f595.keep K596 (ninS ne491 nin0)).other W602 (Or.inl ne490)).other W609 (Or.inl ne491))
    refine own_getF X616 hx hZ hown (host := "") (Or.inl (Wd64 hw)) Via.refl e616 f618 (hb hby d7_362) (fun T617 X617 e617 => ?_)
    refine ownBy (A := T617.setTop (fr_add1 m b p1 q1 368 (.val (.int (0 : Int32))) .unset [(.int (1 : Int32)), (.int (1 : Int32)), (.ref ln), (.int (0 : Int32)), (.ref ln)])) (fun t kt => ?_) ?_
    ·refine XS.iload X617.here hx rfl (hb hby d7_365) rfl ?_
     refine XS.isub X617.here hx rfl (hb hby d7_367) rfl ?_
     exact kt
    have f620 := ((((Al.keep K589 (ninS (Ne.symm ne496) nin0)).keep K596 (ninS (Ne.symm ne498) nin0)).other W602 (Ne.symm ne496)).other W609 (Ne.symm ne498))
    obtain ⟨T619, h619, L619, X619, e619, Nq619, K619, A619, st619⟩ := cpA X617 hx hZ hown (Wd68 hw) (Wd71 hw) (Wd69 hw) (Wd70 hw) e617 f620 f620 (us := [(.long m0)]) (Or.inl ⟨rfl, rfl⟩) (sp := (0 : Int32)) (dp := (1 : Int32)) (nn := (1 : Int32)) (by decide) (by decide) (by decide) (by decide) (by decide) rfl (oLe rfl) Nh612 gl (g := (fr_add1 m b p1 q1 368 (.val (.int (0 : Int32))) .unset [(.int (1 : Int32)), (.int (1 : Int32)), (.ref ln), (.int (0 : Int32)), (.ref ln)])) rfl (by rw [hml]; rfl) rfl (hb hby d7_368) (by decide) (W := 0) (by show 2 * 0 + _ ≤ _; exact Nat.le_of_eq rfl) (by decide)
    have V621 : Arv Z h619 ln kl .long (8 : Int32) [(.long m0), (.long m0), (.long (0 : Int64)), (.long (0 : Int64)), (.long (0 : Int64)), (.long (0 : Int64)), (.long (0 : Int64)), (.long (0 : Int64))] (.long (0 : Int64)) := A619
    refine ownBy st619 ?_
    clear st619
    show ownG p.tables e below _ (T619.setTop (fr_add1 m b p1 q1 371 (.val (.int (0 : Int32))) .unset []))
    refine ownBy (A := T619.setTop (fr_add1 m b p1 q1 372 (.val (.int (0 : Int32))) .unset [(.ref b)])) (fun t kt => ?_) ?_
    ·refine XS.aloadN X619.here hx rfl (hb hby d7_371) rfl rfl ?_
     exact kt
    have f623 := (f614.keep K619 (ninS ne493 nin0))
    refine own_getF X619 hx hZ hown (host := "") (Or.inl (Wd72 hw)) Via.refl e619 f623 (hb hby d7_372) (fun T622 X622 e622 => ?_)
    refine ownBy (A := T622.setTop (fr_add1 m b p1 q1 379 (.val (.int (0 : Int32))) .unset [(.long q1), (.int (0 : Int32)), (.ref ln)])) (fun t kt => ?_) ?_
    ·refine XS.iload X622.here hx rfl (hb hby d7_375) rfl ?_
     refine XS.lload X622.here hx rfl (hb hby d7_377) rfl ?_
     exact kt
    obtain ⟨cl624, Ar624, q624, S624, N624, H624, G624⟩ := id V621
    have hin624 : ¬ ((0 : Int32) < 0 ∨ cl624.slots.size ≤ ((0 : Int32)).toNatClampNeg) := inb_of S624 ⟨by decide, by decide⟩
    obtain ⟨T624, h624, X624, e624, W624, st624⟩ := stJ X622 hx hZ e622 Ar624 (j := (0 : Int32)) hin624 (g := (fr_add1 m b p1 q1 379 (.val (.int (0 : Int32))) .unset [(.long q1), (.int (0 : Int32)), (.ref ln)])) rfl rfl (hb hby d7_379)
    have V625 : Arv Z h624 ln kl .long (8 : Int32) [(.long q1), (.long m0), (.long (0 : Int64)), (.long (0 : Int64)), (.long (0 : Int64)), (.long (0 : Int64)), (.long (0 : Int64)), (.long (0 : Int64))] (.long (0 : Int64)) := Arv.set Ar624 q624 S624 N624 H624 G624 rfl W624 0 rfl (oLe rfl)
    clear hin624 G624 H624 N624 S624 q624 Ar624 cl624 V621
    have N626 := Fr.snoc X624 Nq619 gl
    obtain ⟨Lh627, Xh627, Nh627⟩ := oHd 0 0 X624 N626 rfl rfl
    refine ownBy st624 ?_
    clear st624
    show ownG p.tables e below _ (T624.setTop (fr_add1 m b p1 q1 380 (.val (.int (0 : Int32))) .unset []))
    refine ownBy (A := T624.setTop (fr_add1 m b p1 q1 386 (.val (.int (0 : Int32))) (.val (.int (0 : Int32))) [(.ref b), (.int (0 : Int32))])) (fun t kt => ?_) ?_
    ·refine XS.iconst Xh627.here hx rfl (hb hby d7_380) ?_
     refine XS.istore Xh627.here hx rfl (hb hby d7_381) rfl (l' := #[.val (.ref b), .val (.int p1), .val .null, .val .null, .val (.long q1), .second, .val (.int (0 : Int32)), .val (.int (0 : Int32)), .unset]) rfl ?_
     refine XS.iload Xh627.here hx rfl (hb hby d7_383) rfl ?_
     show Steps p.tables e below (T624.setTop (fr_add1 m b p1 q1 385 (.val (.int (0 : Int32))) (.val (.int (0 : Int32))) [(.int (0 : Int32))])) t
     refine XS.aloadN Xh627.here hx rfl (hb hby d7_385) rfl rfl ?_
     exact kt
    have f629 := ((((((Fn.keep K589 (ninS ne490 nin0)).keep K596 (ninS ne491 nin0)).other W602 (Or.inl ne490)).other W609 (Or.inl ne491)).keep K619 (ninS ne493 nin0)).other W624 (Or.inl ne493))
    refine own_getF Xh627 hx hZ hown (host := "") (Or.inl (Wd57 hw)) Via.refl e624 f629 (hb hby d7_386) (fun T628 X628 e628 => ?_)
    have f630 := ((((((An.keep K589 (ninS (Ne.symm ne495) nin0)).keep K596 (ninS (Ne.symm ne497) nin0)).other W602 (Ne.symm ne495)).other W609 (Ne.symm ne497)).keep K619 (ninS ne499 nin0)).other W624 ne499)
    obtain ⟨cl631, Ar631, -, S631, N631, -, -⟩ := id f630
    have st631 := X628.arraylength hx (by rw [e628]; exact Ar631.1) (State.isArrayOf_alike hZ.alike Ar631.2.1) (g := (fr_add1 m b p1 q1 389 (.val (.int (0 : Int32))) (.val (.int (0 : Int32))) [(.ref nn), (.int (0 : Int32))])) rfl rfl (hb hby d7_389)
    rw [len_of S631 N631] at st631
    refine ownBy st631 ?_
    show ownG p.tables e below _ (T628.setTop (fr_add1 m b p1 q1 390 (.val (.int (0 : Int32))) (.val (.int (0 : Int32))) [(.int (0 : Int32)), (.int (0 : Int32))]))
    refine ownBy (A := T628.setTop (fr_add1 m b p1 q1 463 (.val (.int (0 : Int32))) (.val (.int (0 : Int32))) [(.ref b), (.ref b)])) (fun t kt => ?_) ?_
    ·refine XS.icmpYes X628.here hx rfl (pc0 := 390) (pc' := 461) rfl (hb hby d7_390) rfl (flt ((by decide) : ¬ ((0 : Int32) < (0 : Int32)))).2.1 (by decide) (by decide) ?_
     refine XS.aloadN X628.here hx rfl (hb hby d7_461) rfl rfl ?_
     refine XS.dup X628.here hx rfl (hb hby d7_462) rfl rfl ?_
     exact kt
    have f633 := ((f618.keep K619 (ninS ne493 nin0)).other W624 (Or.inl ne493))
    refine own_getF X628 hx hZ hown (host := "") (Or.inl (Wd64 hw)) Via.refl e628 f633 (hb hby d7_463) (fun T632 X632 e632 => ?_)
    refine ownBy (A := T632.setTop (fr_add1 m b p1 q1 468 (.val (.int (0 : Int32))) (.val (.int (0 : Int32))) [(.int (2 : Int32)), (.ref b)])) (fun t kt => ?_) ?_
    ·refine XS.iconst X632.here hx rfl (hb hby d7_466) ?_
     refine XS.iadd X632.here hx rfl (hb hby d7_467) rfl ?_
     exact kt
    have f635 := ((((((E1.keep K589).keep K596).wr W602).wr W609).keep K619).wr W624)
    obtain ⟨T634, h634, X634, e634, W634, st634⟩ := putF X632 hx hZ hown (host := "") (Or.inl (Wd64 hw)) Via.refl e632 f633 f635 (Or.inl (Wd65 hw)) (Wd3 hw) (ty := .int) (by decide) rfl rfl (g := (fr_add1 m b p1 q1 468 (.val (.int (0 : Int32))) (.val (.int (0 : Int32))) [(.int (2 : Int32)), (.ref b)])) rfl rfl (hb hby d7_468)
    have F636 := f633.same W634
    have N637 := Fr.snoc X634 Nh627 gb
    obtain ⟨Lh638, Xh638, Nh638⟩ := oHd 0 0 X634 N637 rfl rfl
    refine ownBy st634 ?_
    clear st634
    show ownG p.tables e below _ (T634.setTop (fr_add1 m b p1 q1 471 (.val (.int (0 : Int32))) (.val (.int (0 : Int32))) []))
    have f639 := (V625.other W634 (Ne.symm ne493))
    have f641 := (f635.wr W634)
    have f642 := (((((f600.other W602 (Or.inl ne490)).other W609 (Or.inl ne491)).keep K619 (ninS ne493 nin0)).other W624 (Or.inl ne493)).other W634 (Or.inr (slot_ne (Or.inl (Wd36 hw)) (Or.inl (Wd65 hw)) (by decide) (t := (.array .int)) (t' := .int) (by decide) (by decide))))
    have f643 := ((((f607.other W609 (Or.inl ne491)).keep K619 (ninS ne493 nin0)).other W624 (Or.inl ne493)).other W634 (Or.inr (slot_ne (Or.inl (Wd40 hw)) (Or.inl (Wd65 hw)) (by decide) (t := (.array (.object "java/math/BigDecimal"))) (t' := .int) (by decide) (by decide))))
    have f644 := (f629.other W634 (Or.inr (slot_ne (Or.inr (Wd58 hw)) (Or.inl (Wd65 hw)) (by decide) (t := (.array (.array .long))) (t' := .int) (by decide) (by decide))))
    have f645 := (((((((Ff.keep K589 (ninS ne490 nin0)).keep K596 (ninS ne491 nin0)).other W602 (Or.inl ne490)).other W609 (Or.inl ne491)).keep K619 (ninS ne493 nin0)).other W624 (Or.inl ne493)).other W634 (Or.inr (slot_ne (Or.inl (Wd67 hw)) (Or.inl (Wd65 hw)) (by decide) (t := .long) (t' := .int) (by decide) (by decide))))
    have f646 := ((f623.other W624 (Or.inl ne493)).other W634 (Or.inr (slot_ne (Or.inl (Wd73 hw)) (Or.inl (Wd65 hw)) (by decide) (t := (.array .long)) (t' := .int) (by decide) (by decide))))
    have f647 := ((((V603.other W609 ne494).keep K619 (ninS ne496 nin0)).other W624 ne496).other W634 (Ne.symm ne490))
    have f648 := (((V610.keep K619 (ninS ne498 nin0)).other W624 ne498).other W634 (Ne.symm ne491))
    have f649 := (f630.other W634 (Ne.symm ne492))
    have f650 := (Nat.le_trans (Nat.le_trans (Nat.le_trans (Nat.le_trans (Nat.le_trans (Nat.le_trans (Nat.le_trans (Nat.le_refl h0.size) K589.1) K596.1) (Keep.of_wr W602).1) (Keep.of_wr W609).1) K619.1) (Keep.of_wr W624).1) (Keep.of_wr W634).1)
    refine ownRet Xh638 Bd.notSynchronized (v := none) (fun _ => rfl) ?_ (oLe rfl) (oLe rfl) (fun fs hr => Xh638.returnOut hx Bd.returns (hb hby d7_471) hr)
    show (Q_add1 Z b y hh nn ky kh kn z0 m0 f1 lv p1 q1 h0 n0) (none) T634.heap _
    rw [e634]
    have V640 := f639
    exact ⟨rfl, Nh638, f650, p1, z0, q1, m0, f1, (.ref ln), hb578_1_1, Or.inl ⟨rfl, rfl, rfl, rfl⟩, f641, f642, f643, f644, F636, f645, f646, f647, f648, f649, Or.inr ⟨ln, kl, rfl, gl, V640⟩⟩
   ·skip
    exfalso
    simp only [Int32.lt_iff_toInt_lt, ← Int32.toInt_inj] at hb578_2_0 hb578_2_1 hne0
    omega
abbrev fr_add2 (m : MethodId) (b : Addr) (p1 : Int32) (q1 : Int64) (pc : Nat) (x6_ x7_ : Slot) (st : List Value) : JFrame := mkF m pc #[.val (.ref b), .val (.int p1), .val .null, .val .null, .val (.long q1), .second, x6_, x7_, .unset] st
def Q_add2 (Z : State) (b : Addr) (y : Addr) (hh : Addr) (nn : Addr) (ky : ClassId) (kh : ClassId) (kn : ClassId) (z0 : Int32) (z1 : Int32) (m0 : Int64) (m1 : Int64) (f1 : Int64) (lv : Value) (p1 : Int32) (q1 : Int64) (h0 : Heap) (n0 : Nat) (v : Option Value) (h : Heap) (L : List Loc) : Prop := v = none ∧ Fr n0 L ∧ h0.size ≤ h.size ∧ ∃ (w0 w1 w2 : Int32) (u0 u1 u2 : Int64) (f2 : Int64) (lv2 : Value), w0 < w1 ∧ w1 < w2 ∧ ((w0 = p1 ∧ u0 = q1 ∧ w1 = z0 ∧ u1 = m0 ∧ w2 = z1 ∧ u2 = m1) ∨ (w0 = z0 ∧ u0 = m0 ∧ w1 = p1 ∧ u1 = q1 ∧ w2 = z1 ∧ u2 = m1) ∨ (w0 = z0 ∧ u0 = m0 ∧ w1 = z1 ∧ u1 = m1 ∧ w2 = p1 ∧ u2 = q1)) ∧ Exa Z h b "com/example/vestline/vestline/HoursByPlanYear$Builder" ∧ Fld Z h b "com/example/vestline/vestline/HoursByPlanYear$Builder" "years" "[I" (.ref y) ∧ Fld Z h b "com/example/vestline/vestline/HoursByPlanYear$Builder" "hours" "[Ljava/math/BigDecimal;" (.ref hh) ∧ Fld Z h b "com/example/vestline/vestline/HoursByPlanYear$Builder" "numbers" "[[J" (.ref nn) ∧ Fld Z h b "com/example/vestline/vestline/HoursByPlanYear$Builder" "size" "I" (.int (3 : Int32)) ∧ Fld Z h b "com/example/vestline/vestline/HoursByPlanYear$Builder" "firstLine" "J" (.long f2) ∧ Fld Z h b "com/example/vestline/vestline/HoursByPlanYear$Builder" "lines" "[J" lv2 ∧ Arv Z h y ky .int (8 : Int32) [(.int w0), (.int w1), (.int w2), (.int (0 : Int32)), (.int (0 : Int32)), (.int (0 : Int32)), (.int (0 : Int32)), (.int (0 : Int32))] (.int (0 : Int32)) ∧ Arv Z h hh kh (.object "java/math/BigDecimal") (8 : Int32) [.null, .null, .null, .null, .null, .null, .null, .null] .null ∧ Arv Z h nn kn (.array .long) (0 : Int32) [] .null ∧ ((lv2 = .null ∧ u0 = f2 + (0 : Int64) ∧ u1 = f2 + (1 : Int64) ∧ u2 = f2 + (2 : Int64)) ∨ ∃ (l : Addr) (kl : ClassId), lv2 = .ref l ∧ n0 ≤ l ∧ Arv Z h l kl .long (8 : Int32) [(.long u0), (.long u1), (.long u2), (.long (0 : Int64)), (.long (0 : Int64)), (.long (0 : Int64)), (.long (0 : Int64)), (.long (0 : Int64))] (.long (0 : Int64)))
theorem ef_add2 (m : MethodId) (x0 : Addr) (x1 : Int32) (x4 : Int64)  : entryFrame m #[(.ref x0), (.int x1), .null, .null, (.long x4)] 9 = mkF m 0 #[.val (.ref x0), .val (.int x1), .val .null, .val .null, .val (.long x4), .second, .unset, .unset, .unset] [] := by first | (simp [entryFrame, mkF, argsToLocals, Value.category]; done) | rfl
set_option maxRecDepth 65536 in
set_option maxHeartbeats 40000000 in
theorem c_add2 (l : Launch) (Z : State) (a0 : Array Value) (hw : ∀ d ∈ tables_1, d.before a0 Z = true) (ws : List Jvm.Cond) (b : Addr) (y : Addr) (hh : Addr) (nn : Addr) (ky : ClassId) (kh : ClassId) (kn : ClassId) (z0 : Int32) (z1 : Int32) (m0 : Int64) (m1 : Int64) (f1 : Int64) (lv : Value) (p1 : Int32) (q1 : Int64) (h0 : Heap) (n0 : Nat) (Z0 : n0 ≤ h0.size) (E1 : Exa Z h0 b "com/example/vestline/vestline/HoursByPlanYear$Builder") (Fy : Fld Z h0 b "com/example/vestline/vestline/HoursByPlanYear$Builder" "years" "[I" (.ref y)) (Fh : Fld Z h0 b "com/example/vestline/vestline/HoursByPlanYear$Builder" "hours" "[Ljava/math/BigDecimal;" (.ref hh)) (Fn : Fld Z h0 b "com/example/vestline/vestline/HoursByPlanYear$Builder" "numbers" "[[J" (.ref nn)) (Fs : Fld Z h0 b "com/example/vestline/vestline/HoursByPlanYear$Builder" "size" "I" (.int (2 : Int32))) (Ff : Fld Z h0 b "com/example/vestline/vestline/HoursByPlanYear$Builder" "firstLine" "J" (.long f1)) (Fl : Fld Z h0 b "com/example/vestline/vestline/HoursByPlanYear$Builder" "lines" "[J" lv) (Ay : Arv Z h0 y ky .int (8 : Int32) [(.int z0), (.int z1), (.int (0 : Int32)), (.int (0 : Int32)), (.int (0 : Int32)), (.int (0 : Int32)), (.int (0 : Int32)), (.int (0 : Int32))] (.int (0 : Int32))) (Ah : Arv Z h0 hh kh (.object "java/math/BigDecimal") (8 : Int32) [.null, .null, .null, .null, .null, .null, .null, .null] .null) (An : Arv Z h0 nn kn (.array .long) (0 : Int32) [] .null) (hLN : ((lv = .null ∧ m0 = f1 + (0 : Int64) ∧ m1 = f1 + (1 : Int64)) ∨ ∃ (l : Addr) (kl : ClassId), lv = .ref l ∧ n0 ≤ l ∧ Arv Z h0 l kl .long (8 : Int32) [(.long m0), (.long m1), (.long (0 : Int64)), (.long (0 : Int64)), (.long (0 : Int64)), (.long (0 : Int64)), (.long (0 : Int64)), (.long (0 : Int64))] (.long (0 : Int64)))) (gb : n0 ≤ b) (gy : n0 ≤ y) (gh : n0 ≤ hh) (hs0 : z0 < z1) (hne0 : ¬ (p1 = z0)) (hne1 : ¬ (p1 = z1)) :
  MetFree l (⟨"com/example/vestline/vestline/HoursByPlanYear$Builder", "add", "(ILjava/math/BigDecimal;Ljava/util/List;J)V"⟩ : MethodName) (head1 (Jvm.Cond.code (⟨"com/example/vestline/vestline/HoursByPlanYear$Builder", "add", "(ILjava/math/BigDecimal;Ljava/util/List;J)V"⟩ : MethodName) prog_14_method_3_code 9 none :: ws) ({ frames := 2, cells := 1, slots := 8, locals := 40 } : Room)) (fun a U => a = #[(.ref b), (.int p1), .null, .null, (.long q1)] ∧ Z.Warmed39 U.vm ∧ U.heap = h0) (fun _ _ _ _ _ => True) (fun _ U o U' => ∃ v L, o = .returned v ∧ (Q_add2 Z b y hh nn ky kh kn z0 z1 m0 m1 f1 lv p1 q1 h0 n0) v U'.heap L ∧ FrameEnd U o U' L ({ frames := 2, cells := 1, slots := 8, locals := 40 } : Room).cells ({ frames := 2, cells := 1, slots := 8, locals := 40 } : Room).slots) := by
 refine MetFree.of_bodySF (plainFor_of_name pn_73) hisR ?_
 intro p e s m args below meth c s₁ Bd hml0 hP hK
 obtain ⟨rfl, hZ, hHp⟩ := hP
 have hx := Bd.exec
 have hby := Bd.bytes
 have hml : c.maxLocals = 9 := hml0
 have hown : s.vm.findClass "com/example/vestline/vestline/HoursByPlanYear$Builder" = some m.cls := findClass_of_methodNamed Bd.named
 have hnm := (name_of_methodNamed Bd.named Bd.method).1
 have X0 : Stand p l e ({ frames := 2, cells := 1, slots := 8, locals := 40 } : Room) s m #[(.ref b), (.int p1), .null, .null, (.long q1)] below meth c s₁ [] 0 0 := Stand.of_body Bd
 have e0 : s₁.heap = h0 := by rw [← hHp, Bd.state]; rfl
 have N0 := Fr.nil n0
 refine ownOut (P := (Q_add2 Z b y hh nn ky kh kn z0 z1 m0 m1 f1 lv p1 q1 h0 n0)) ?_
 refine ownBy (A := s₁.setTop (mkF m 0 #[.val (.ref b), .val (.int p1), .val .null, .val .null, .val (.long q1), .second, .unset, .unset, .unset] [])) (fun t k => castTop (ef_add2 m b p1 q1) k) ?_
 have ne651 : b ≠ y := Exa.neArv E1 Ay (Wd3 hw)
 have ne652 : b ≠ hh := Exa.neArv E1 Ah (Wd3 hw)
 have ne653 : b ≠ nn := Exa.neArv E1 An (Wd3 hw)
 have ne654 : y ≠ hh := own_ty_ne Ay Ah (by decide)
 have ne655 : y ≠ nn := own_ty_ne Ay An (by decide)
 have ne656 : hh ≠ nn := own_ty_ne Ah An (by decide)
 rcases hLN with ⟨hlv, hm0, hm1⟩ | ⟨ln, kl, hlv, gl, Al⟩
 ·rw [hlv] at Fl
  refine ownBy (A := s₁.setTop (fr_add2 m b p1 q1 1 .unset .unset [(.ref b)])) (fun t kt => ?_) ?_
  ·refine XS.aloadN X0.here hx rfl (hb hby d7_0) rfl rfl ?_
   exact kt
  refine own_getF X0 hx hZ hown (host := "") (Or.inl (Wd64 hw)) Via.refl e0 Fs (hb hby d7_1) (fun T657 X657 e657 => ?_)
  refine ownBy (A := T657.setTop (fr_add2 m b p1 q1 7 (.val (.int (2 : Int32))) .unset [(.ref b)])) (fun t kt => ?_) ?_
  ·refine XS.istore X657.here hx rfl (hb hby d7_4) rfl (l' := #[.val (.ref b), .val (.int p1), .val .null, .val .null, .val (.long q1), .second, .val (.int (2 : Int32)), .unset, .unset]) rfl ?_
   refine XS.aloadN X657.here hx rfl (hb hby d7_6) rfl rfl ?_
   exact kt
  refine own_getF X657 hx hZ hown (host := "") (Or.inl (Wd64 hw)) Via.refl e657 Fs (hb hby d7_7) (fun T658 X658 e658 => ?_)
  refine ownBy (A := T658.setTop (fr_add2 m b p1 q1 14 (.val (.int (2 : Int32))) .unset [(.ref b)])) (fun t kt => ?_) ?_
  ·refine XS.ifNo X658.here hx rfl (hb hby d7_10) rfl ((if0 _ _).trans (tlt ((by decide) : (0 : Int32) < (2 : Int32))).2.2.2) ?_
   refine XS.aloadN X658.here hx rfl (hb hby d7_13) rfl rfl ?_
   exact kt
  refine own_getF X658 hx hZ hown (host := "") (Or.inl (Wd35 hw)) Via.refl e658 Fy (hb hby d7_14) (fun T659 X659 e659 => ?_)
  refine ownBy (A := T659.setTop (fr_add2 m b p1 q1 18 (.val (.int (2 : Int32))) .unset [(.ref b), (.ref y)])) (fun t kt => ?_) ?_
  ·refine XS.aloadN X659.here hx rfl (hb hby d7_17) rfl rfl ?_
   exact kt
  refine own_getF X659 hx hZ hown (host := "") (Or.inl (Wd64 hw)) Via.refl e659 Fs (hb hby d7_18) (fun T660 X660 e660 => ?_)
  refine ownBy (A := T660.setTop (fr_add2 m b p1 q1 23 (.val (.int (2 : Int32))) .unset [(.int (1 : Int32)), (.ref y)])) (fun t kt => ?_) ?_
  ·refine XS.iconst X660.here hx rfl (hb hby d7_21) ?_
   refine XS.isub X660.here hx rfl (hb hby d7_22) rfl ?_
   exact kt
  obtain ⟨cl661, Ar661, q661, S661, N661, H661, G661⟩ := id Ay
  have hin661 : ¬ ((1 : Int32) < 0 ∨ cl661.slots.size ≤ ((1 : Int32)).toNatClampNeg) := inb_of S661 ⟨by decide, by decide⟩
  have hat661 : cl661.slots[((1 : Int32)).toNatClampNeg]? = some (.int z1) := H661.at hin661 rfl
  have st661 := X660.iaload hx (j := (1 : Int32)) (v := (.int z1)) (by rw [e660]; exact Ar661.1) (State.isArrayOf_alike hZ.alike Ar661.2.1) Ar661.2.2 hin661 hat661 (g := (fr_add2 m b p1 q1 23 (.val (.int (2 : Int32))) .unset [(.int (1 : Int32)), (.ref y)])) rfl rfl (hb hby d7_23)
  refine ownBy st661 ?_
  show ownG p.tables e below _ (T660.setTop (fr_add2 m b p1 q1 24 (.val (.int (2 : Int32))) .unset [(.int z1)]))
  refine ownBy (A := T660.setTop (fr_add2 m b p1 q1 25 (.val (.int (2 : Int32))) .unset [(.int p1), (.int z1)])) (fun t kt => ?_) ?_
  ·refine XS.iloadN X660.here hx rfl (hb hby d7_24) rfl ?_
   exact kt
  by_cases hc662 : z1 < p1
  ·skip
   refine ownBy (A := T660.setTop (fr_add2 m b p1 q1 70 (.val (.int (2 : Int32))) .unset [(.ref b)])) (fun t kt => ?_) ?_
   ·refine XS.icmpYes X660.here hx rfl (pc0 := 25) (pc' := 69) rfl (hb hby d7_25) rfl (tlt hc662).1 (by decide) (by decide) ?_
    refine XS.aloadN X660.here hx rfl (hb hby d7_69) rfl rfl ?_
    exact kt
   refine own_getF X660 hx hZ hown (host := "") (Or.inl (Wd64 hw)) Via.refl e660 Fs (hb hby d7_70) (fun T663 X663 e663 => ?_)
   refine ownBy (A := T663.setTop (fr_add2 m b p1 q1 86 (.val (.int (2 : Int32))) .unset [(.ref b)])) (fun t kt => ?_) ?_
   ·refine XS.ifYes X663.here hx rfl (pc0 := 73) (pc' := 85) rfl (hb hby d7_73) rfl ((if0 _ _).trans (feq ((by decide) : ¬ ((2 : Int32) = (0 : Int32)))).2) (by decide) (by decide) ?_
    refine XS.aloadN X663.here hx rfl (hb hby d7_85) rfl rfl ?_
    exact kt
   refine own_getF X663 hx hZ hown (host := "") (Or.inl (Wd72 hw)) Via.refl e663 Fl (hb hby d7_86) (fun T664 X664 e664 => ?_)
   refine ownBy (A := T664.setTop (fr_add2 m b p1 q1 95 (.val (.int (2 : Int32))) .unset [(.ref b), (.int (2 : Int32))])) (fun t kt => ?_) ?_
   ·refine XS.ifnonnullNo X664.here hx rfl (hb hby d7_89) rfl ?_
    refine XS.iload X664.here hx rfl (hb hby d7_92) rfl ?_
    refine XS.aloadN X664.here hx rfl (hb hby d7_94) rfl rfl ?_
    exact kt
   refine own_getF X664 hx hZ hown (host := "") (Or.inl (Wd64 hw)) Via.refl e664 Fs (hb hby d7_95) (fun T665 X665 e665 => ?_)
   refine ownBy (A := T665.setTop (fr_add2 m b p1 q1 104 (.val (.int (2 : Int32))) .unset [(.ref b), (.long q1)])) (fun t kt => ?_) ?_
   ·refine XS.icmpNo X665.here hx rfl (hb hby d7_98) rfl (teq ((by decide) : (2 : Int32) = (2 : Int32))).2 ?_
    refine XS.lload X665.here hx rfl (hb hby d7_101) rfl ?_
    refine XS.aloadN X665.here hx rfl (hb hby d7_103) rfl rfl ?_
    exact kt
   refine own_getF X665 hx hZ hown (host := "") (Or.inl (Wd66 hw)) Via.refl e665 Ff (hb hby d7_104) (fun T666 X666 e666 => ?_)
   refine ownBy (A := T666.setTop (fr_add2 m b p1 q1 108 (.val (.int (2 : Int32))) .unset [(.ref b), (.long f1), (.long q1)])) (fun t kt => ?_) ?_
   ·refine XS.aloadN X666.here hx rfl (hb hby d7_107) rfl rfl ?_
    exact kt
   refine own_getF X666 hx hZ hown (host := "") (Or.inl (Wd64 hw)) Via.refl e666 Fs (hb hby d7_108) (fun T667 X667 e667 => ?_)
   refine ownBy (A := T667.setTop (fr_add2 m b p1 q1 114 (.val (.int (2 : Int32))) .unset [(.int (lcmpW q1 (f1 + (2 : Int64))))])) (fun t kt => ?_) ?_
   ·refine XS.i2l X667.here hx rfl (hb hby d7_111) rfl ?_
    refine XS.ladd X667.here hx rfl (hb hby d7_112) rfl ?_
    refine XS.lcmp X667.here hx rfl (hb hby d7_113) rfl ?_
    exact kt
   by_cases hc668 : (lcmpW q1 (f1 + (2 : Int64))) = (0 : Int32)
   ·skip
    refine ownBy (A := T667.setTop (fr_add2 m b p1 q1 162 (.val (.int (2 : Int32))) .unset [(.ref b)])) (fun t kt => ?_) ?_
    ·refine XS.ifYes X667.here hx rfl (pc0 := 114) (pc' := 161) rfl (hb hby d7_114) rfl ((if0 _ _).trans (teq hc668).1) (by decide) (by decide) ?_
     refine XS.aloadN X667.here hx rfl (hb hby d7_161) rfl rfl ?_
     exact kt
    refine own_getF X667 hx hZ hown (host := "") (Or.inl (Wd64 hw)) Via.refl e667 Fs (hb hby d7_162) (fun T669 X669 e669 => ?_)
    refine ownBy (A := T669.setTop (fr_add2 m b p1 q1 166 (.val (.int (2 : Int32))) .unset [(.ref b), (.int (2 : Int32))])) (fun t kt => ?_) ?_
    ·refine XS.aloadN X669.here hx rfl (hb hby d7_165) rfl rfl ?_
     exact kt
    refine own_getF X669 hx hZ hown (host := "") (Or.inl (Wd35 hw)) Via.refl e669 Fy (hb hby d7_166) (fun T670 X670 e670 => ?_)
    obtain ⟨cl671, Ar671, -, S671, N671, -, -⟩ := id Ay
    have st671 := X670.arraylength hx (by rw [e670]; exact Ar671.1) (State.isArrayOf_alike hZ.alike Ar671.2.1) (g := (fr_add2 m b p1 q1 169 (.val (.int (2 : Int32))) .unset [(.ref y), (.int (2 : Int32))])) rfl rfl (hb hby d7_169)
    rw [len_of S671 N671] at st671
    refine ownBy st671 ?_
    show ownG p.tables e below _ (T670.setTop (fr_add2 m b p1 q1 170 (.val (.int (2 : Int32))) .unset [(.int (8 : Int32)), (.int (2 : Int32))]))
    refine ownBy (A := T670.setTop (fr_add2 m b p1 q1 277 (.val (.int (2 : Int32))) .unset [(.ref b)])) (fun t kt => ?_) ?_
    ·refine XS.icmpYes X670.here hx rfl (pc0 := 170) (pc' := 276) rfl (hb hby d7_170) rfl (feq ((by decide) : ¬ ((2 : Int32) = (8 : Int32)))).2 (by decide) (by decide) ?_
     refine XS.aloadN X670.here hx rfl (hb hby d7_276) rfl rfl ?_
     exact kt
    refine own_getF X670 hx hZ hown (host := "") (Or.inl (Wd35 hw)) Via.refl e670 Fy (hb hby d7_277) (fun T672 X672 e672 => ?_)
    refine ownBy (A := T672.setTop (fr_add2 m b p1 q1 283 (.val (.int (2 : Int32))) .unset [(.ref b), (.int (2 : Int32)), (.ref y)])) (fun t kt => ?_) ?_
    ·refine XS.iload X672.here hx rfl (hb hby d7_280) rfl ?_
     refine XS.aloadN X672.here hx rfl (hb hby d7_282) rfl rfl ?_
     exact kt
    refine own_getF X672 hx hZ hown (host := "") (Or.inl (Wd35 hw)) Via.refl e672 Fy (hb hby d7_283) (fun T673 X673 e673 => ?_)
    refine ownBy (A := T673.setTop (fr_add2 m b p1 q1 291 (.val (.int (2 : Int32))) .unset [(.ref b), (.int (3 : Int32)), (.ref y), (.int (2 : Int32)), (.ref y)])) (fun t kt => ?_) ?_
    ·refine XS.iload X673.here hx rfl (hb hby d7_286) rfl ?_
     refine XS.iconst X673.here hx rfl (hb hby d7_288) ?_
     refine XS.iadd X673.here hx rfl (hb hby d7_289) rfl ?_
     show Steps p.tables e below (T673.setTop (fr_add2 m b p1 q1 290 (.val (.int (2 : Int32))) .unset [(.int (3 : Int32)), (.ref y), (.int (2 : Int32)), (.ref y)])) t
     refine XS.aloadN X673.here hx rfl (hb hby d7_290) rfl rfl ?_
     exact kt
    refine own_getF X673 hx hZ hown (host := "") (Or.inl (Wd64 hw)) Via.refl e673 Fs (hb hby d7_291) (fun T674 X674 e674 => ?_)
    refine ownBy (A := T674.setTop (fr_add2 m b p1 q1 297 (.val (.int (2 : Int32))) .unset [(.int (0 : Int32)), (.int (3 : Int32)), (.ref y), (.int (2 : Int32)), (.ref y)])) (fun t kt => ?_) ?_
    ·refine XS.iload X674.here hx rfl (hb hby d7_294) rfl ?_
     refine XS.isub X674.here hx rfl (hb hby d7_296) rfl ?_
     exact kt
    obtain ⟨T675, h675, L675, X675, e675, Nq675, K675, A675, st675⟩ := cpA X674 hx hZ hown (Wd68 hw) (Wd71 hw) (Wd69 hw) (Wd70 hw) e674 Ay Ay (us := []) (Or.inl ⟨rfl, rfl⟩) (sp := (2 : Int32)) (dp := (3 : Int32)) (nn := (0 : Int32)) (by decide) (by decide) (by decide) (by decide) (by decide) rfl (oLe rfl) N0 gy (g := (fr_add2 m b p1 q1 297 (.val (.int (2 : Int32))) .unset [(.int (0 : Int32)), (.int (3 : Int32)), (.ref y), (.int (2 : Int32)), (.ref y)])) rfl (by rw [hml]; rfl) rfl (hb hby d7_297) (by decide) (W := 0) (by show 2 * 0 + _ ≤ _; exact Nat.le_of_eq rfl) (by decide)
    have V676 : Arv Z h675 y ky .int (8 : Int32) [(.int z0), (.int z1), (.int (0 : Int32)), (.int (0 : Int32)), (.int (0 : Int32)), (.int (0 : Int32)), (.int (0 : Int32)), (.int (0 : Int32))] (.int (0 : Int32)) := A675
    refine ownBy st675 ?_
    clear st675
    show ownG p.tables e below _ (T675.setTop (fr_add2 m b p1 q1 300 (.val (.int (2 : Int32))) .unset []))
    refine ownBy (A := T675.setTop (fr_add2 m b p1 q1 301 (.val (.int (2 : Int32))) .unset [(.ref b)])) (fun t kt => ?_) ?_
    ·refine XS.aloadN X675.here hx rfl (hb hby d7_300) rfl rfl ?_
     exact kt
    have f678 := (Fh.keep K675 (ninS ne651 nin0))
    refine own_getF X675 hx hZ hown (host := "") (Or.inl (Wd39 hw)) Via.refl e675 f678 (hb hby d7_301) (fun T677 X677 e677 => ?_)
    refine ownBy (A := T677.setTop (fr_add2 m b p1 q1 307 (.val (.int (2 : Int32))) .unset [(.ref b), (.int (2 : Int32)), (.ref hh)])) (fun t kt => ?_) ?_
    ·refine XS.iload X677.here hx rfl (hb hby d7_304) rfl ?_
     refine XS.aloadN X677.here hx rfl (hb hby d7_306) rfl rfl ?_
     exact kt
    refine own_getF X677 hx hZ hown (host := "") (Or.inl (Wd39 hw)) Via.refl e677 f678 (hb hby d7_307) (fun T679 X679 e679 => ?_)
    refine ownBy (A := T679.setTop (fr_add2 m b p1 q1 315 (.val (.int (2 : Int32))) .unset [(.ref b), (.int (3 : Int32)), (.ref hh), (.int (2 : Int32)), (.ref hh)])) (fun t kt => ?_) ?_
    ·refine XS.iload X679.here hx rfl (hb hby d7_310) rfl ?_
     refine XS.iconst X679.here hx rfl (hb hby d7_312) ?_
     refine XS.iadd X679.here hx rfl (hb hby d7_313) rfl ?_
     show Steps p.tables e below (T679.setTop (fr_add2 m b p1 q1 314 (.val (.int (2 : Int32))) .unset [(.int (3 : Int32)), (.ref hh), (.int (2 : Int32)), (.ref hh)])) t
     refine XS.aloadN X679.here hx rfl (hb hby d7_314) rfl rfl ?_
     exact kt
    have f681 := (Fs.keep K675 (ninS ne651 nin0))
    refine own_getF X679 hx hZ hown (host := "") (Or.inl (Wd64 hw)) Via.refl e679 f681 (hb hby d7_315) (fun T680 X680 e680 => ?_)
    refine ownBy (A := T680.setTop (fr_add2 m b p1 q1 321 (.val (.int (2 : Int32))) .unset [(.int (0 : Int32)), (.int (3 : Int32)), (.ref hh), (.int (2 : Int32)), (.ref hh)])) (fun t kt => ?_) ?_
    ·refine XS.iload X680.here hx rfl (hb hby d7_318) rfl ?_
     refine XS.isub X680.here hx rfl (hb hby d7_320) rfl ?_
     exact kt
    have f683 := (Ah.keep K675 (ninS (Ne.symm ne654) nin0))
    obtain ⟨T682, h682, L682, X682, e682, Nq682, K682, A682, st682⟩ := cpA X680 hx hZ hown (Wd68 hw) (Wd71 hw) (Wd69 hw) (Wd70 hw) e680 f683 f683 (us := []) (Or.inr ⟨rfl, rfl, trivial⟩) (sp := (2 : Int32)) (dp := (3 : Int32)) (nn := (0 : Int32)) (by decide) (by decide) (by decide) (by decide) (by decide) rfl (oLe rfl) Nq675 gh (g := (fr_add2 m b p1 q1 321 (.val (.int (2 : Int32))) .unset [(.int (0 : Int32)), (.int (3 : Int32)), (.ref hh), (.int (2 : Int32)), (.ref hh)])) rfl (by rw [hml]; rfl) rfl (hb hby d7_321) (by decide) (W := 0) (by show 2 * 0 + _ ≤ _; exact Nat.le_of_eq rfl) (by decide)
    have V684 : Arv Z h682 hh kh (.object "java/math/BigDecimal") (8 : Int32) [.null, .null, .null, .null, .null, .null, .null, .null] .null := A682
    refine ownBy st682 ?_
    clear st682
    show ownG p.tables e below _ (T682.setTop (fr_add2 m b p1 q1 324 (.val (.int (2 : Int32))) .unset []))
    refine ownBy (A := T682.setTop (fr_add2 m b p1 q1 325 (.val (.int (2 : Int32))) .unset [(.ref b)])) (fun t kt => ?_) ?_
    ·refine XS.aloadN X682.here hx rfl (hb hby d7_324) rfl rfl ?_
     exact kt
    have f686 := ((Fy.keep K675 (ninS ne651 nin0)).keep K682 (ninS ne652 nin0))
    refine own_getF X682 hx hZ hown (host := "") (Or.inl (Wd35 hw)) Via.refl e682 f686 (hb hby d7_325) (fun T685 X685 e685 => ?_)
    refine ownBy (A := T685.setTop (fr_add2 m b p1 q1 331 (.val (.int (2 : Int32))) .unset [(.int p1), (.int (2 : Int32)), (.ref y)])) (fun t kt => ?_) ?_
    ·refine XS.iload X685.here hx rfl (hb hby d7_328) rfl ?_
     refine XS.iloadN X685.here hx rfl (hb hby d7_330) rfl ?_
     exact kt
    have f687 := (V676.keep K682 (ninS ne654 nin0))
    obtain ⟨cl688, Ar688, q688, S688, N688, H688, G688⟩ := id f687
    have hin688 : ¬ ((2 : Int32) < 0 ∨ cl688.slots.size ≤ ((2 : Int32)).toNatClampNeg) := inb_of S688 ⟨by decide, by decide⟩
    obtain ⟨T688, h688, X688, e688, W688, st688⟩ := stI X685 hx hZ e685 Ar688 (j := (2 : Int32)) hin688 (g := (fr_add2 m b p1 q1 331 (.val (.int (2 : Int32))) .unset [(.int p1), (.int (2 : Int32)), (.ref y)])) rfl rfl (hb hby d7_331)
    have V689 : Arv Z h688 y ky .int (8 : Int32) [(.int z0), (.int z1), (.int p1), (.int (0 : Int32)), (.int (0 : Int32)), (.int (0 : Int32)), (.int (0 : Int32)), (.int (0 : Int32))] (.int (0 : Int32)) := Arv.set Ar688 q688 S688 N688 H688 G688 rfl W688 2 rfl (oLe rfl)
    clear hin688 G688 H688 N688 S688 q688 Ar688 cl688 f687
    have N690 := Fr.snoc X688 Nq682 gy
    obtain ⟨Lh691, Xh691, Nh691⟩ := oHd 0 0 X688 N690 rfl rfl
    refine ownBy st688 ?_
    clear st688
    show ownG p.tables e below _ (T688.setTop (fr_add2 m b p1 q1 332 (.val (.int (2 : Int32))) .unset []))
    refine ownBy (A := T688.setTop (fr_add2 m b p1 q1 333 (.val (.int (2 : Int32))) .unset [(.ref b)])) (fun t kt => ?_) ?_
    ·refine XS.aloadN Xh691.here hx rfl (hb hby d7_332) rfl rfl ?_
     exact kt
    have f693 := ((f678.keep K682 (ninS ne652 nin0)).other W688 (Or.inl ne651))
    refine own_getF Xh691 hx hZ hown (host := "") (Or.inl (Wd39 hw)) Via.refl e688 f693 (hb hby d7_333) (fun T692 X692 e692 => ?_)
    refine ownBy (A := T692.setTop (fr_add2 m b p1 q1 339 (.val (.int (2 : Int32))) .unset [.null, (.int (2 : Int32)), (.ref hh)])) (fun t kt => ?_) ?_
    ·refine XS.iload X692.here hx rfl (hb hby d7_336) rfl ?_
     refine XS.aloadN X692.here hx rfl (hb hby d7_338) rfl rfl ?_
     exact kt
    have f694 := (V684.other W688 (Ne.symm ne654))
    obtain ⟨cl695, Ar695, q695, S695, N695, H695, G695⟩ := id f694
    have hin695 : ¬ ((2 : Int32) < 0 ∨ cl695.slots.size ≤ ((2 : Int32)).toNatClampNeg) := inb_of S695 ⟨by decide, by decide⟩
    obtain ⟨T695, h695, X695, e695, W695, st695⟩ := stR X692 hx hZ e692 Ar695 (j := (2 : Int32)) hin695 rfl (Or.inl rfl) (g := (fr_add2 m b p1 q1 339 (.val (.int (2 : Int32))) .unset [.null, (.int (2 : Int32)), (.ref hh)])) rfl rfl (hb hby d7_339)
    have V696 : Arv Z h695 hh kh (.object "java/math/BigDecimal") (8 : Int32) [.null, .null, .null, .null, .null, .null, .null, .null] .null := Arv.set Ar695 q695 S695 N695 H695 G695 rfl W695 2 rfl (oLe rfl)
    have N697 := Fr.snoc X695 Nh691 gh
    obtain ⟨Lh698, Xh698, Nh698⟩ := oHd 0 0 X695 N697 rfl rfl
    refine ownBy st695 ?_
    clear st695
    show ownG p.tables e below _ (T695.setTop (fr_add2 m b p1 q1 340 (.val (.int (2 : Int32))) .unset []))
    refine ownBy (A := T695.setTop (fr_add2 m b p1 q1 341 (.val (.int (2 : Int32))) .unset [(.ref b)])) (fun t kt => ?_) ?_
    ·refine XS.aloadN Xh698.here hx rfl (hb hby d7_340) rfl rfl ?_
     exact kt
    have f700 := ((((Fl.keep K675 (ninS ne651 nin0)).keep K682 (ninS ne652 nin0)).other W688 (Or.inl ne651)).other W695 (Or.inl ne652))
    refine own_getF Xh698 hx hZ hown (host := "") (Or.inl (Wd72 hw)) Via.refl e695 f700 (hb hby d7_341) (fun T699 X699 e699 => ?_)
    refine ownBy (A := T699.setTop (fr_add2 m b p1 q1 386 (.val (.int (2 : Int32))) (.val (.int (0 : Int32))) [(.ref b), (.int (0 : Int32))])) (fun t kt => ?_) ?_
    ·refine XS.ifnullYes X699.here hx rfl (pc0 := 344) (pc' := 380) rfl (hb hby d7_344) rfl (by decide) (by decide) ?_
     refine XS.iconst X699.here hx rfl (hb hby d7_380) ?_
     refine XS.istore X699.here hx rfl (hb hby d7_381) rfl (l' := #[.val (.ref b), .val (.int p1), .val .null, .val .null, .val (.long q1), .second, .val (.int (2 : Int32)), .val (.int (0 : Int32)), .unset]) rfl ?_
     show Steps p.tables e below (T699.setTop (fr_add2 m b p1 q1 383 (.val (.int (2 : Int32))) (.val (.int (0 : Int32))) [])) t
     refine XS.iload X699.here hx rfl (hb hby d7_383) rfl ?_
     refine XS.aloadN X699.here hx rfl (hb hby d7_385) rfl rfl ?_
     exact kt
    have f702 := ((((Fn.keep K675 (ninS ne651 nin0)).keep K682 (ninS ne652 nin0)).other W688 (Or.inl ne651)).other W695 (Or.inl ne652))
    refine own_getF X699 hx hZ hown (host := "") (Or.inl (Wd57 hw)) Via.refl e699 f702 (hb hby d7_386) (fun T701 X701 e701 => ?_)
    have f703 := ((((An.keep K675 (ninS (Ne.symm ne655) nin0)).keep K682 (ninS (Ne.symm ne656) nin0)).other W688 (Ne.symm ne655)).other W695 (Ne.symm ne656))
    obtain ⟨cl704, Ar704, -, S704, N704, -, -⟩ := id f703
    have st704 := X701.arraylength hx (by rw [e701]; exact Ar704.1) (State.isArrayOf_alike hZ.alike Ar704.2.1) (g := (fr_add2 m b p1 q1 389 (.val (.int (2 : Int32))) (.val (.int (0 : Int32))) [(.ref nn), (.int (0 : Int32))])) rfl rfl (hb hby d7_389)
    rw [len_of S704 N704] at st704
    refine ownBy st704 ?_
    show ownG p.tables e below _ (T701.setTop (fr_add2 m b p1 q1 390 (.val (.int (2 : Int32))) (.val (.int (0 : Int32))) [(.int (0 : Int32)), (.int (0 : Int32))]))
    refine ownBy (A := T701.setTop (fr_add2 m b p1 q1 463 (.val (.int (2 : Int32))) (.val (.int (0 : Int32))) [(.ref b), (.ref b)])) (fun t kt => ?_) ?_
    ·refine XS.icmpYes X701.here hx rfl (pc0 := 390) (pc' := 461) rfl (hb hby d7_390) rfl (flt ((by decide) : ¬ ((0 : Int32) < (0 : Int32)))).2.1 (by decide) (by decide) ?_
     refine XS.aloadN X701.here hx rfl (hb hby d7_461) rfl rfl ?_
     refine XS.dup X701.here hx rfl (hb hby d7_462) rfl rfl ?_
     exact kt
    have f706 := (((f681.keep K682 (ninS ne652 nin0)).other W688 (Or.inl ne651)).other W695 (Or.inl ne652))
    refine own_getF X701 hx hZ hown (host := "") (Or.inl (Wd64 hw)) Via.refl e701 f706 (hb hby d7_463) (fun T705 X705 e705 => ?_)
    refine ownBy (A := T705.setTop (fr_add2 m b p1 q1 468 (.val (.int (2 : Int32))) (.val (.int (0 : Int32))) [(.int (3 : Int32)), (.ref b)])) (fun t kt => ?_) ?_
    ·refine XS.iconst X705.here hx rfl (hb hby d7_466) ?_
     refine XS.iadd X705.here hx rfl (hb hby d7_467) rfl ?_
     exact kt
    have f708 := ((((E1.keep K675).keep K682).wr W688).wr W695)
    obtain ⟨T707, h707, X707, e707, W707, st707⟩ := putF X705 hx hZ hown (host := "") (Or.inl (Wd64 hw)) Via.refl e705 f706 f708 (Or.inl (Wd65 hw)) (Wd3 hw) (ty := .int) (by decide) rfl rfl (g := (fr_add2 m b p1 q1 468 (.val (.int (2 : Int32))) (.val (.int (0 : Int32))) [(.int (3 : Int32)), (.ref b)])) rfl rfl (hb hby d7_468)
    have F709 := f706.same W707
    have N710 := Fr.snoc X707 Nh698 gb
    obtain ⟨Lh711, Xh711, Nh711⟩ := oHd 0 0 X707 N710 rfl rfl
    refine ownBy st707 ?_
    clear st707
    show ownG p.tables e below _ (T707.setTop (fr_add2 m b p1 q1 471 (.val (.int (2 : Int32))) (.val (.int (0 : Int32))) []))
    have f712 := (f708.wr W707)
    have f713 := (((f686.other W688 (Or.inl ne651)).other W695 (Or.inl ne652)).other W707 (Or.inr (slot_ne (Or.inl (Wd36 hw)) (Or.inl (Wd65 hw)) (by decide) (t := (.array .int)) (t' := .int) (by decide) (by decide))))
    have f714 := ((f693.other W695 (Or.inl ne652)).other W707 (Or.inr (slot_ne (Or.inl (Wd40 hw)) (Or.inl (Wd65 hw)) (by decide) (t := (.array (.object "java/math/BigDecimal"))) (t' := .int) (by decide) (by decide))))
    have f715 := (f702.other W707 (Or.inr (slot_ne (Or.inr (Wd58 hw)) (Or.inl (Wd65 hw)) (by decide) (t := (.array (.array .long))) (t' := .int) (by decide) (by decide))))
    have f716 := (((((Ff.keep K675 (ninS ne651 nin0)).keep K682 (ninS ne652 nin0)).other W688 (Or.inl ne651)).other W695 (Or.inl ne652)).other W707 (Or.inr (slot_ne (Or.inl (Wd67 hw)) (Or.inl (Wd65 hw)) (by decide) (t := .long) (t' := .int) (by decide) (by decide))))
    have f717 := (f700.other W707 (Or.inr (slot_ne (Or.inl (Wd73 hw)) (Or.inl (Wd65 hw)) (by decide) (t := (.array .long)) (t' := .int) (by decide) (by decide))))
    have f718 := ((V689.other W695 ne654).other W707 (Ne.symm ne651))
    have f719 := (V696.other W707 (Ne.symm ne652))
    have f720 := (f703.other W707 (Ne.symm ne653))
    have f721 := (Nat.le_trans (Nat.le_trans (Nat.le_trans (Nat.le_trans (Nat.le_trans (Nat.le_refl h0.size) K675.1) K682.1) (Keep.of_wr W688).1) (Keep.of_wr W695).1) (Keep.of_wr W707).1)
    refine ownRet Xh711 Bd.notSynchronized (v := none) (fun _ => rfl) ?_ (oLe rfl) (oLe rfl) (fun fs hr => Xh711.returnOut hx Bd.returns (hb hby d7_471) hr)
    show (Q_add2 Z b y hh nn ky kh kn z0 z1 m0 m1 f1 lv p1 q1 h0 n0) (none) T707.heap _
    rw [e707]
    exact ⟨rfl, Nh711, f721, z0, z1, p1, m0, m1, q1, f1, .null, hs0, hc662, Or.inr (Or.inr (⟨rfl, rfl, rfl, rfl, rfl, rfl⟩)), f712, f713, f714, f715, F709, f716, f717, f718, f719, f720, Or.inl ⟨rfl, hm0, hm1, (lc_eq _ _).mp ((lcW _ _).symm.trans hc668)⟩⟩
   ·skip
    refine ownBy (A := T667.setTop (fr_add2 m b p1 q1 119 (.val (.int (2 : Int32))) .unset [(.ref b), (.ref b)])) (fun t kt => ?_) ?_
    ·refine XS.ifNo X667.here hx rfl (hb hby d7_114) rfl ((if0 _ _).trans (feq hc668).1) ?_
     refine XS.aloadN X667.here hx rfl (hb hby d7_117) rfl rfl ?_
     refine XS.aloadN X667.here hx rfl (hb hby d7_118) rfl rfl ?_
     exact kt
    refine own_getF X667 hx hZ hown (host := "") (Or.inl (Wd35 hw)) Via.refl e667 Fy (hb hby d7_119) (fun T722 X722 e722 => ?_)
    obtain ⟨cl723, Ar723, -, S723, N723, -, -⟩ := id Ay
    have st723 := X722.arraylength hx (by rw [e722]; exact Ar723.1) (State.isArrayOf_alike hZ.alike Ar723.2.1) (g := (fr_add2 m b p1 q1 122 (.val (.int (2 : Int32))) .unset [(.ref y), (.ref b)])) rfl rfl (hb hby d7_122)
    rw [len_of S723 N723] at st723
    refine ownBy st723 ?_
    show ownG p.tables e below _ (T722.setTop (fr_add2 m b p1 q1 123 (.val (.int (2 : Int32))) .unset [(.int (8 : Int32)), (.ref b)]))
    obtain ⟨T724, h724, k724, X724, e724, E724, A724, st724⟩ := newP X722 hx hZ (aty := .long) (Wd56 hw) e722 (g := (fr_add2 m b p1 q1 123 (.val (.int (2 : Int32))) .unset [(.int (8 : Int32)), (.ref b)])) rfl (hb hby d7_123) rfl (by decide : ¬ ((8 : Int32) < (0 : Int32))) (cap := 8) (by decide) (by decide) (by decide) (by decide)
    obtain ⟨b724, g724⟩ : ∃ z, z = h0.size := ⟨_, rfl⟩
    rw [← g724] at A724 st724
    have ne725 : b ≠ b724 := Nat.ne_of_lt (Nat.lt_of_lt_of_le E1.lt (Nat.le_of_eq g724.symm))
    have ne726 : y ≠ b724 := Nat.ne_of_lt (Nat.lt_of_lt_of_le Ay.lt (Nat.le_of_eq g724.symm))
    have ne727 : hh ≠ b724 := Nat.ne_of_lt (Nat.lt_of_lt_of_le Ah.lt (Nat.le_of_eq g724.symm))
    have ne728 : nn ≠ b724 := Nat.ne_of_lt (Nat.lt_of_lt_of_le An.lt (Nat.le_of_eq g724.symm))
    have g729 : n0 ≤ b724 := Nat.le_trans Z0 (Nat.le_of_eq g724.symm)
    have z730 : h0.size ≤ b724 := Nat.le_trans (Nat.le_refl h0.size) (Nat.le_of_eq g724.symm)
    have V731 : Arv Z h724 b724 k724 .long (8 : Int32) [(.long (0 : Int64)), (.long (0 : Int64)), (.long (0 : Int64)), (.long (0 : Int64)), (.long (0 : Int64)), (.long (0 : Int64)), (.long (0 : Int64)), (.long (0 : Int64))] (.long (0 : Int64)) := (Arv.new A724 (by decide)).pad (pad_rep [] (.long (0 : Int64)) 8)
    refine ownBy st724 ?_
    clear st724
    show ownG p.tables e below _ (T724.setTop (fr_add2 m b p1 q1 125 (.val (.int (2 : Int32))) .unset [(.ref b724), (.ref b)]))
    have f733 := (Fl.ext E724)
    have f734 := (E1.ext E724)
    obtain ⟨T732, h732, X732, e732, W732, st732⟩ := putF X724 hx hZ hown (host := "") (Or.inl (Wd72 hw)) Via.refl e724 f733 f734 (Or.inl (Wd73 hw)) (Wd3 hw) (ty := (.array .long)) (by decide) rfl rfl (g := (fr_add2 m b p1 q1 125 (.val (.int (2 : Int32))) .unset [(.ref b724), (.ref b)])) rfl rfl (hb hby d7_125)
    have F735 := f733.same W732
    have N736 := Fr.snoc X732 N0 gb
    obtain ⟨Lh737, Xh737, Nh737⟩ := oHd 1 8 X732 N736 rfl rfl
    refine ownBy st732 ?_
    clear st732
    show ownG p.tables e below _ (T732.setTop (fr_add2 m b p1 q1 128 (.val (.int (2 : Int32))) .unset []))
    refine ownBy (A := T732.setTop (fr_add2 m b p1 q1 134 (.val (.int (2 : Int32))) (.val (.int (0 : Int32))) [(.ref b), (.int (0 : Int32))])) (fun t kt => ?_) ?_
    ·refine XS.iconst Xh737.here hx rfl (hb hby d7_128) ?_
     refine XS.istore Xh737.here hx rfl (hb hby d7_129) rfl (l' := #[.val (.ref b), .val (.int p1), .val .null, .val .null, .val (.long q1), .second, .val (.int (2 : Int32)), .val (.int (0 : Int32)), .unset]) rfl ?_
     refine XS.iload Xh737.here hx rfl (hb hby d7_131) rfl ?_
     show Steps p.tables e below (T732.setTop (fr_add2 m b p1 q1 133 (.val (.int (2 : Int32))) (.val (.int (0 : Int32))) [(.int (0 : Int32))])) t
     refine XS.aloadN Xh737.here hx rfl (hb hby d7_133) rfl rfl ?_
     exact kt
    have f739 := ((Fs.ext E724).other W732 (Or.inr (slot_ne (Or.inl (Wd65 hw)) (Or.inl (Wd73 hw)) (by decide) (t := .int) (t' := (.array .long)) (by decide) (by decide))))
    refine own_getF Xh737 hx hZ hown (host := "") (Or.inl (Wd64 hw)) Via.refl e732 f739 (hb hby d7_134) (fun T738 X738 e738 => ?_)
    refine ownBy (A := T738.setTop (fr_add2 m b p1 q1 141 (.val (.int (2 : Int32))) (.val (.int (0 : Int32))) [(.ref b)])) (fun t kt => ?_) ?_
    ·refine XS.icmpNo X738.here hx rfl (hb hby d7_137) rfl (tlt ((by decide) : (0 : Int32) < (2 : Int32))).2.1 ?_
     refine XS.aloadN X738.here hx rfl (hb hby d7_140) rfl rfl ?_
     exact kt
    refine own_getF X738 hx hZ hown (host := "") (Or.inl (Wd72 hw)) Via.refl e738 F735 (hb hby d7_141) (fun T740 X740 e740 => ?_)
    refine ownBy (A := T740.setTop (fr_add2 m b p1 q1 147 (.val (.int (2 : Int32))) (.val (.int (0 : Int32))) [(.ref b), (.int (0 : Int32)), (.ref b724)])) (fun t kt => ?_) ?_
    ·refine XS.iload X740.here hx rfl (hb hby d7_144) rfl ?_
     refine XS.aloadN X740.here hx rfl (hb hby d7_146) rfl rfl ?_
     exact kt
    have f742 := ((Ff.ext E724).other W732 (Or.inr (slot_ne (Or.inl (Wd67 hw)) (Or.inl (Wd73 hw)) (by decide) (t := .long) (t' := (.array .long)) (by decide) (by decide))))
    refine own_getF X740 hx hZ hown (host := "") (Or.inl (Wd66 hw)) Via.refl e740 f742 (hb hby d7_147) (fun T741 X741 e741 => ?_)
    refine ownBy (A := T741.setTop (fr_add2 m b p1 q1 154 (.val (.int (2 : Int32))) (.val (.int (0 : Int32))) [(.long (f1 + (0 : Int64))), (.int (0 : Int32)), (.ref b724)])) (fun t kt => ?_) ?_
    ·refine XS.iload X741.here hx rfl (hb hby d7_150) rfl ?_
     refine XS.i2l X741.here hx rfl (hb hby d7_152) rfl ?_
     refine XS.ladd X741.here hx rfl (hb hby d7_153) rfl ?_
     exact kt
    have f743 := (V731.other W732 (Ne.symm ne725))
    obtain ⟨cl744, Ar744, q744, S744, N744, H744, G744⟩ := id f743
    have hin744 : ¬ ((0 : Int32) < 0 ∨ cl744.slots.size ≤ ((0 : Int32)).toNatClampNeg) := inb_of S744 ⟨by decide, by decide⟩
    obtain ⟨T744, h744, X744, e744, W744, st744⟩ := stJ X741 hx hZ e741 Ar744 (j := (0 : Int32)) hin744 (g := (fr_add2 m b p1 q1 154 (.val (.int (2 : Int32))) (.val (.int (0 : Int32))) [(.long (f1 + (0 : Int64))), (.int (0 : Int32)), (.ref b724)])) rfl rfl (hb hby d7_154)
    have V745 : Arv Z h744 b724 k724 .long (8 : Int32) [(.long (f1 + (0 : Int64))), (.long (0 : Int64)), (.long (0 : Int64)), (.long (0 : Int64)), (.long (0 : Int64)), (.long (0 : Int64)), (.long (0 : Int64)), (.long (0 : Int64))] (.long (0 : Int64)) := Arv.set Ar744 q744 S744 N744 H744 G744 rfl W744 0 rfl (oLe rfl)
    clear hin744 G744 H744 N744 S744 q744 Ar744 cl744 f743
    have N746 := Fr.snoc X744 Nh737 g729
    obtain ⟨Lh747, Xh747, Nh747⟩ := oHd 1 8 X744 N746 rfl rfl
    refine ownBy st744 ?_
    clear st744
    show ownG p.tables e below _ (T744.setTop (fr_add2 m b p1 q1 155 (.val (.int (2 : Int32))) (.val (.int (0 : Int32))) []))
    refine ownBy (A := T744.setTop (fr_add2 m b p1 q1 134 (.val (.int (2 : Int32))) (.val (.int (1 : Int32))) [(.ref b), (.int (1 : Int32))])) (fun t kt => ?_) ?_
    ·refine XS.iinc Xh747.here hx rfl (hb hby d7_155) rfl (l' := #[.val (.ref b), .val (.int p1), .val .null, .val .null, .val (.long q1), .second, .val (.int (2 : Int32)), .val (.int (1 : Int32)), .unset]) rfl ?_
     refine XS.goto Xh747.here hx rfl (pc0 := 158) (pc' := 131) rfl (hb hby d7_158) (by decide) (by decide) ?_
     refine XS.iload Xh747.here hx rfl (hb hby d7_131) rfl ?_
     show Steps p.tables e below (T744.setTop (fr_add2 m b p1 q1 133 (.val (.int (2 : Int32))) (.val (.int (1 : Int32))) [(.int (1 : Int32))])) t
     refine XS.aloadN Xh747.here hx rfl (hb hby d7_133) rfl rfl ?_
     exact kt
    have f749 := (f739.other W744 (Or.inl ne725))
    refine own_getF Xh747 hx hZ hown (host := "") (Or.inl (Wd64 hw)) Via.refl e744 f749 (hb hby d7_134) (fun T748 X748 e748 => ?_)
    refine ownBy (A := T748.setTop (fr_add2 m b p1 q1 141 (.val (.int (2 : Int32))) (.val (.int (1 : Int32))) [(.ref b)])) (fun t kt => ?_) ?_
    ·refine XS.icmpNo X748.here hx rfl (hb hby d7_137) rfl (tlt ((by decide) : (1 : Int32) < (2 : Int32))).2.1 ?_
     refine XS.aloadN X748.here hx rfl (hb hby d7_140) rfl rfl ?_
     exact kt
    have f751 := (F735.other W744 (Or.inl ne725))
    refine own_getF X748 hx hZ hown (host := "") (Or.inl (Wd72 hw)) Via.refl e748 f751 (hb hby d7_141) (fun T750 X750 e750 => ?_)
    refine ownBy (A := T750.setTop (fr_add2 m b p1 q1 147 (.val (.int (2 : Int32))) (.val (.int (1 : Int32))) [(.ref b), (.int (1 : Int32)), (.ref b724)])) (fun t kt => ?_) ?_
    ·refine XS.iload X750.here hx rfl (hb hby d7_144) rfl ?_
     refine XS.aloadN X750.here hx rfl (hb hby d7_146) rfl rfl ?_
     exact kt
    have f753 := (f742.other W744 (Or.inl ne725))
    refine own_getF X750 hx hZ hown (host := "") (Or.inl (Wd66 hw)) Via.refl e750 f753 (hb hby d7_147) (fun T752 X752 e752 => ?_)
    refine ownBy (A := T752.setTop (fr_add2 m b p1 q1 154 (.val (.int (2 : Int32))) (.val (.int (1 : Int32))) [(.long (f1 + (1 : Int64))), (.int (1 : Int32)), (.ref b724)])) (fun t kt => ?_) ?_
    ·refine XS.iload X752.here hx rfl (hb hby d7_150) rfl ?_
     refine XS.i2l X752.here hx rfl (hb hby d7_152) rfl ?_
     refine XS.ladd X752.here hx rfl (hb hby d7_153) rfl ?_
     exact kt
    obtain ⟨cl754, Ar754, q754, S754, N754, H754, G754⟩ := id V745
    have hin754 : ¬ ((1 : Int32) < 0 ∨ cl754.slots.size ≤ ((1 : Int32)).toNatClampNeg) := inb_of S754 ⟨by decide, by decide⟩
    obtain ⟨T754, h754, X754, e754, W754, st754⟩ := stJ X752 hx hZ e752 Ar754 (j := (1 : Int32)) hin754 (g := (fr_add2 m b p1 q1 154 (.val (.int (2 : Int32))) (.val (.int (1 : Int32))) [(.long (f1 + (1 : Int64))), (.int (1 : Int32)), (.ref b724)])) rfl rfl (hb hby d7_154)
    have V755 : Arv Z h754 b724 k724 .long (8 : Int32) [(.long (f1 + (0 : Int64))), (.long (f1 + (1 : Int64))), (.long (0 : Int64)), (.long (0 : Int64)), (.long (0 : Int64)), (.long (0 : Int64)), (.long (0 : Int64)), (.long (0 : Int64))] (.long (0 : Int64)) := Arv.set Ar754 q754 S754 N754 H754 G754 rfl W754 1 rfl (oLe rfl)
    clear hin754 G754 H754 N754 S754 q754 Ar754 cl754 V745
    have N756 := Fr.snoc X754 Nh747 g729
    obtain ⟨Lh757, Xh757, Nh757⟩ := oHd 1 8 X754 N756 rfl rfl
    refine ownBy st754 ?_
    clear st754
    show ownG p.tables e below _ (T754.setTop (fr_add2 m b p1 q1 155 (.val (.int (2 : Int32))) (.val (.int (1 : Int32))) []))
    refine ownBy (A := T754.setTop (fr_add2 m b p1 q1 134 (.val (.int (2 : Int32))) (.val (.int (2 : Int32))) [(.ref b), (.int (2 : Int32))])) (fun t kt => ?_) ?_
    ·refine XS.iinc Xh757.here hx rfl (hb hby d7_155) rfl (l' := #[.val (.ref b), .val (.int p1), .val .null, .val .null, .val (.long q1), .second, .val (.int (2 : Int32)), .val (.int (2 : Int32)), .unset]) rfl ?_
     refine XS.goto Xh757.here hx rfl (pc0 := 158) (pc' := 131) rfl (hb hby d7_158) (by decide) (by decide) ?_
     refine XS.iload Xh757.here hx rfl (hb hby d7_131) rfl ?_
     show Steps p.tables e below (T754.setTop (fr_add2 m b p1 q1 133 (.val (.int (2 : Int32))) (.val (.int (2 : Int32))) [(.int (2 : Int32))])) t
     refine XS.aloadN Xh757.here hx rfl (hb hby d7_133) rfl rfl ?_
     exact kt
    have f759 := (f749.other W754 (Or.inl ne725))
    refine own_getF Xh757 hx hZ hown (host := "") (Or.inl (Wd64 hw)) Via.refl e754 f759 (hb hby d7_134) (fun T758 X758 e758 => ?_)
    refine ownBy (A := T758.setTop (fr_add2 m b p1 q1 162 (.val (.int (2 : Int32))) (.val (.int (2 : Int32))) [(.ref b)])) (fun t kt => ?_) ?_
    ·refine XS.icmpYes X758.here hx rfl (pc0 := 137) (pc' := 161) rfl (hb hby d7_137) rfl (flt ((by decide) : ¬ ((2 : Int32) < (2 : Int32)))).2.1 (by decide) (by decide) ?_
     refine XS.aloadN X758.here hx rfl (hb hby d7_161) rfl rfl ?_
     exact kt
    refine own_getF X758 hx hZ hown (host := "") (Or.inl (Wd64 hw)) Via.refl e758 f759 (hb hby d7_162) (fun T760 X760 e760 => ?_)
    refine ownBy (A := T760.setTop (fr_add2 m b p1 q1 166 (.val (.int (2 : Int32))) (.val (.int (2 : Int32))) [(.ref b), (.int (2 : Int32))])) (fun t kt => ?_) ?_
    ·refine XS.aloadN X760.here hx rfl (hb hby d7_165) rfl rfl ?_
     exact kt
    have f762 := ((((Fy.ext E724).other W732 (Or.inr (slot_ne (Or.inl (Wd36 hw)) (Or.inl (Wd73 hw)) (by decide) (t := (.array .int)) (t' := (.array .long)) (by decide) (by decide)))).other W744 (Or.inl ne725)).other W754 (Or.inl ne725))
    refine own_getF X760 hx hZ hown (host := "") (Or.inl (Wd35 hw)) Via.refl e760 f762 (hb hby d7_166) (fun T761 X761 e761 => ?_)
    have f763 := ((((Ay.ext E724).other W732 (Ne.symm ne651)).other W744 ne726).other W754 ne726)
    obtain ⟨cl764, Ar764, -, S764, N764, -, -⟩ := id f763
    have st764 := X761.arraylength hx (by rw [e761]; exact Ar764.1) (State.isArrayOf_alike hZ.alike Ar764.2.1) (g := (fr_add2 m b p1 q1 169 (.val (.int (2 : Int32))) (.val (.int (2 : Int32))) [(.ref y), (.int (2 : Int32))])) rfl rfl (hb hby d7_169)
    rw [len_of S764 N764] at st764
    refine ownBy st764 ?_
    show ownG p.tables e below _ (T761.setTop (fr_add2 m b p1 q1 170 (.val (.int (2 : Int32))) (.val (.int (2 : Int32))) [(.int (8 : Int32)), (.int (2 : Int32))]))
    refine ownBy (A := T761.setTop (fr_add2 m b p1 q1 277 (.val (.int (2 : Int32))) (.val (.int (2 : Int32))) [(.ref b)])) (fun t kt => ?_) ?_
    ·refine XS.icmpYes X761.here hx rfl (pc0 := 170) (pc' := 276) rfl (hb hby d7_170) rfl (feq ((by decide) : ¬ ((2 : Int32) = (8 : Int32)))).2 (by decide) (by decide) ?_
     refine XS.aloadN X761.here hx rfl (hb hby d7_276) rfl rfl ?_
     exact kt
    refine own_getF X761 hx hZ hown (host := "") (Or.inl (Wd35 hw)) Via.refl e761 f762 (hb hby d7_277) (fun T765 X765 e765 => ?_)
    refine ownBy (A := T765.setTop (fr_add2 m b p1 q1 283 (.val (.int (2 : Int32))) (.val (.int (2 : Int32))) [(.ref b), (.int (2 : Int32)), (.ref y)])) (fun t kt => ?_) ?_
    ·refine XS.iload X765.here hx rfl (hb hby d7_280) rfl ?_
     refine XS.aloadN X765.here hx rfl (hb hby d7_282) rfl rfl ?_
     exact kt
    refine own_getF X765 hx hZ hown (host := "") (Or.inl (Wd35 hw)) Via.refl e765 f762 (hb hby d7_283) (fun T766 X766 e766 => ?_)
    refine ownBy (A := T766.setTop (fr_add2 m b p1 q1 291 (.val (.int (2 : Int32))) (.val (.int (2 : Int32))) [(.ref b), (.int (3 : Int32)), (.ref y), (.int (2 : Int32)), (.ref y)])) (fun t kt => ?_) ?_
    ·refine XS.iload X766.here hx rfl (hb hby d7_286) rfl ?_
     refine XS.iconst X766.here hx rfl (hb hby d7_288) ?_
     refine XS.iadd X766.here hx rfl (hb hby d7_289) rfl ?_
     show Steps p.tables e below (T766.setTop (fr_add2 m b p1 q1 290 (.val (.int (2 : Int32))) (.val (.int (2 : Int32))) [(.int (3 : Int32)), (.ref y), (.int (2 : Int32)), (.ref y)])) t
     refine XS.aloadN X766.here hx rfl (hb hby d7_290) rfl rfl ?_
     exact kt
    refine own_getF X766 hx hZ hown (host := "") (Or.inl (Wd64 hw)) Via.refl e766 f759 (hb hby d7_291) (fun T767 X767 e767 => ?_)
    refine ownBy (A := T767.setTop (fr_add2 m b p1 q1 297 (.val (.int (2 : Int32))) (.val (.int (2 : Int32))) [(.int (0 : Int32)), (.int (3 : Int32)), (.ref y), (.int (2 : Int32)), (.ref y)])) (fun t kt => ?_) ?_
    ·refine XS.iload X767.here hx rfl (hb hby d7_294) rfl ?_
     refine XS.isub X767.here hx rfl (hb hby d7_296) rfl ?_
     exact kt
    obtain ⟨T768, h768, L768, X768, e768, Nq768, K768, A768, st768⟩ := cpA X767 hx hZ hown (Wd68 hw) (Wd71 hw) (Wd69 hw) (Wd70 hw) e767 f763 f763 (us := []) (Or.inl ⟨rfl, rfl⟩) (sp := (2 : Int32)) (dp := (3 : Int32)) (nn := (0 : Int32)) (by decide) (by decide) (by decide) (by decide) (by decide) rfl (oLe rfl) Nh757 gy (g := (fr_add2 m b p1 q1 297 (.val (.int (2 : Int32))) (.val (.int (2 : Int32))) [(.int (0 : Int32)), (.int (3 : Int32)), (.ref y), (.int (2 : Int32)), (.ref y)])) rfl (by rw [hml]; rfl) rfl (hb hby d7_297) (by decide) (W := 0) (by show 2 * 0 + _ ≤ _; exact Nat.le_of_eq rfl) (by decide)
    have V769 : Arv Z h768 y ky .int (8 : Int32) [(.int z0), (.int z1), (.int (0 : Int32)), (.int (0 : Int32)), (.int (0 : Int32)), (.int (0 : Int32)), (.int (0 : Int32)), (.int (0 : Int32))] (.int (0 : Int32)) := A768
    refine ownBy st768 ?_
    clear st768
    show ownG p.tables e below _ (T768.setTop (fr_add2 m b p1 q1 300 (.val (.int (2 : Int32))) (.val (.int (2 : Int32))) []))
    refine ownBy (A := T768.setTop (fr_add2 m b p1 q1 301 (.val (.int (2 : Int32))) (.val (.int (2 : Int32))) [(.ref b)])) (fun t kt => ?_) ?_
    ·refine XS.aloadN X768.here hx rfl (hb hby d7_300) rfl rfl ?_
     exact kt
    have f771 := (((((Fh.ext E724).other W732 (Or.inr (slot_ne (Or.inl (Wd40 hw)) (Or.inl (Wd73 hw)) (by decide) (t := (.array (.object "java/math/BigDecimal"))) (t' := (.array .long)) (by decide) (by decide)))).other W744 (Or.inl ne725)).other W754 (Or.inl ne725)).keep K768 (ninS ne651 nin0))
    refine own_getF X768 hx hZ hown (host := "") (Or.inl (Wd39 hw)) Via.refl e768 f771 (hb hby d7_301) (fun T770 X770 e770 => ?_)
    refine ownBy (A := T770.setTop (fr_add2 m b p1 q1 307 (.val (.int (2 : Int32))) (.val (.int (2 : Int32))) [(.ref b), (.int (2 : Int32)), (.ref hh)])) (fun t kt => ?_) ?_
    ·refine XS.iload X770.here hx rfl (hb hby d7_304) rfl ?_
     refine XS.aloadN X770.here hx rfl (hb hby d7_306) rfl rfl ?_
     exact kt
    refine own_getF X770 hx hZ hown (host := "") (Or.inl (Wd39 hw)) Via.refl e770 f771 (hb hby d7_307) (fun T772 X772 e772 => ?_)
    refine ownBy (A := T772.setTop (fr_add2 m b p1 q1 315 (.val (.int (2 : Int32))) (.val (.int (2 : Int32))) [(.ref b), (.int (3 : Int32)), (.ref hh), (.int (2 : Int32)), (.ref hh)])) (fun t kt => ?_) ?_
    ·refine XS.iload X772.here hx rfl (hb hby d7_310) rfl ?_
     refine XS.iconst X772.here hx rfl (hb hby d7_312) ?_
     refine XS.iadd X772.here hx rfl (hb hby d7_313) rfl ?_
     show Steps p.tables e below (T772.setTop (fr_add2 m b p1 q1 314 (.val (.int (2 : Int32))) (.val (.int (2 : Int32))) [(.int (3 : Int32)), (.ref hh), (.int (2 : Int32)), (.ref hh)])) t
     refine XS.aloadN X772.here hx rfl (hb hby d7_314) rfl rfl ?_
     exact kt
    have f774 := (f759.keep K768 (ninS ne651 nin0))
    refine own_getF X772 hx hZ hown (host := "") (Or.inl (Wd64 hw)) Via.refl e772 f774 (hb hby d7_315) (fun T773 X773 e773 => ?_)
    refine ownBy (A := T773.setTop (fr_add2 m b p1 q1 321 (.val (.int (2 : Int32))) (.val (.int (2 : Int32))) [(.int (0 : Int32)), (.int (3 : Int32)), (.ref hh), (.int (2 : Int32)), (.ref hh)])) (fun t kt => ?_) ?_
    ·refine XS.iload X773.here hx rfl (hb hby d7_318) rfl ?_
     refine XS.isub X773.here hx rfl (hb hby d7_320) rfl ?_
     exact kt
    have f776 := (((((Ah.ext E724).other W732 (Ne.symm ne652)).other W744 ne727).other W754 ne727).keep K768 (ninS (Ne.symm ne654) nin0))
    obtain ⟨T775, h775, L775, X775, e775, Nq775, K775, A775, st775⟩ := cpA X773 hx hZ hown (Wd68 hw) (Wd71 hw) (Wd69 hw) (Wd70 hw) e773 f776 f776 (us := []) (Or.inr ⟨rfl, rfl, trivial⟩) (sp := (2 : Int32)) (dp := (3 : Int32)) (nn := (0 : Int32)) (by decide) (by decide) (by decide) (by decide) (by decide) rfl (oLe rfl) Nq768 gh (g := (fr_add2 m b p1 q1 321 (.val (.int (2 : Int32))) (.val (.int (2 : Int32))) [(.int (0 : Int32)), (.int (3 : Int32)), (.ref hh), (.int (2 : Int32)), (.ref hh)])) rfl (by rw [hml]; rfl) rfl (hb hby d7_321) (by decide) (W := 0) (by show 2 * 0 + _ ≤ _; exact Nat.le_of_eq rfl) (by decide)
    have V777 : Arv Z h775 hh kh (.object "java/math/BigDecimal") (8 : Int32) [.null, .null, .null, .null, .null, .null, .null, .null] .null := A775
    refine ownBy st775 ?_
    clear st775
    show ownG p.tables e below _ (T775.setTop (fr_add2 m b p1 q1 324 (.val (.int (2 : Int32))) (.val (.int (2 : Int32))) []))
    refine ownBy (A := T775.setTop (fr_add2 m b p1 q1 325 (.val (.int (2 : Int32))) (.val (.int (2 : Int32))) [(.ref b)])) (fun t kt => ?_) ?_
    ·refine XS.aloadN X775.here hx rfl (hb hby d7_324) rfl rfl ?_
     exact kt
    have f779 := ((f762.keep K768 (ninS ne651 nin0)).keep K775 (ninS ne652 nin0))
    refine own_getF X775 hx hZ hown (host := "") (Or.inl (Wd35 hw)) Via.refl e775 f779 (hb hby d7_325) (fun T778 X778 e778 => ?_)
    refine ownBy (A := T778.setTop (fr_add2 m b p1 q1 331 (.val (.int (2 : Int32))) (.val (.int (2 : Int32))) [(.int p1), (.int (2 : Int32)), (.ref y)])) (fun t kt => ?_) ?_
    ·refine XS.iload X778.here hx rfl (hb hby d7_328) rfl ?_
     refine XS.iloadN X778.here hx rfl (hb hby d7_330) rfl ?_
     exact kt
    have f780 := (V769.keep K775 (ninS ne654 nin0))
    obtain ⟨cl781, Ar781, q781, S781, N781, H781, G781⟩ := id f780
    have hin781 : ¬ ((2 : Int32) < 0 ∨ cl781.slots.size ≤ ((2 : Int32)).toNatClampNeg) := inb_of S781 ⟨by decide, by decide⟩
    obtain ⟨T781, h781, X781, e781, W781, st781⟩ := stI X778 hx hZ e778 Ar781 (j := (2 : Int32)) hin781 (g := (fr_add2 m b p1 q1 331 (.val (.int (2 : Int32))) (.val (.int (2 : Int32))) [(.int p1), (.int (2 : Int32)), (.ref y)])) rfl rfl (hb hby d7_331)
    have V782 : Arv Z h781 y ky .int (8 : Int32) [(.int z0), (.int z1), (.int p1), (.int (0 : Int32)), (.int (0 : Int32)), (.int (0 : Int32)), (.int (0 : Int32)), (.int (0 : Int32))] (.int (0 : Int32)) := Arv.set Ar781 q781 S781 N781 H781 G781 rfl W781 2 rfl (oLe rfl)
    clear hin781 G781 H781 N781 S781 q781 Ar781 cl781 f780
    have N783 := Fr.snoc X781 Nq775 gy
    obtain ⟨Lh784, Xh784, Nh784⟩ := oHd 1 8 X781 N783 rfl rfl
    refine ownBy st781 ?_
    clear st781
    show ownG p.tables e below _ (T781.setTop (fr_add2 m b p1 q1 332 (.val (.int (2 : Int32))) (.val (.int (2 : Int32))) []))
    refine ownBy (A := T781.setTop (fr_add2 m b p1 q1 333 (.val (.int (2 : Int32))) (.val (.int (2 : Int32))) [(.ref b)])) (fun t kt => ?_) ?_
    ·refine XS.aloadN Xh784.here hx rfl (hb hby d7_332) rfl rfl ?_
     exact kt
    have f786 := ((f771.keep K775 (ninS ne652 nin0)).other W781 (Or.inl ne651))
    refine own_getF Xh784 hx hZ hown (host := "") (Or.inl (Wd39 hw)) Via.refl e781 f786 (hb hby d7_333) (fun T785 X785 e785 => ?_)
    refine ownBy (A := T785.setTop (fr_add2 m b p1 q1 339 (.val (.int (2 : Int32))) (.val (.int (2 : Int32))) [.null, (.int (2 : Int32)), (.ref hh)])) (fun t kt => ?_) ?_
    ·refine XS.iload X785.here hx rfl (hb hby d7_336) rfl ?_
     refine XS.aloadN X785.here hx rfl (hb hby d7_338) rfl rfl ?_
     exact kt
    have f787 := (V777.other W781 (Ne.symm ne654))
    obtain ⟨cl788, Ar788, q788, S788, N788, H788, G788⟩ := id f787
    have hin788 : ¬ ((2 : Int32) < 0 ∨ cl788.slots.size ≤ ((2 : Int32)).toNatClampNeg) := inb_of S788 ⟨by decide, by decide⟩
    obtain ⟨T788, h788, X788, e788, W788, st788⟩ := stR X785 hx hZ e785 Ar788 (j := (2 : Int32)) hin788 rfl (Or.inl rfl) (g := (fr_add2 m b p1 q1 339 (.val (.int (2 : Int32))) (.val (.int (2 : Int32))) [.null, (.int (2 : Int32)), (.ref hh)])) rfl rfl (hb hby d7_339)
    have V789 : Arv Z h788 hh kh (.object "java/math/BigDecimal") (8 : Int32) [.null, .null, .null, .null, .null, .null, .null, .null] .null := Arv.set Ar788 q788 S788 N788 H788 G788 rfl W788 2 rfl (oLe rfl)
    have N790 := Fr.snoc X788 Nh784 gh
    obtain ⟨Lh791, Xh791, Nh791⟩ := oHd 1 8 X788 N790 rfl rfl
    refine ownBy st788 ?_
    clear st788
    show ownG p.tables e below _ (T788.setTop (fr_add2 m b p1 q1 340 (.val (.int (2 : Int32))) (.val (.int (2 : Int32))) []))
    refine ownBy (A := T788.setTop (fr_add2 m b p1 q1 341 (.val (.int (2 : Int32))) (.val (.int (2 : Int32))) [(.ref b)])) (fun t kt => ?_) ?_
    ·refine XS.aloadN Xh791.here hx rfl (hb hby d7_340) rfl rfl ?_
     exact kt
    have f793 := (((((f751.other W754 (Or.inl ne725)).keep K768 (ninS ne651 nin0)).keep K775 (ninS ne652 nin0)).other W781 (Or.inl ne651)).other W788 (Or.inl ne652))
    refine own_getF Xh791 hx hZ hown (host := "") (Or.inl (Wd72 hw)) Via.refl e788 f793 (hb hby d7_341) (fun T792 X792 e792 => ?_)
    refine ownBy (A := T792.setTop (fr_add2 m b p1 q1 348 (.val (.int (2 : Int32))) (.val (.int (2 : Int32))) [(.ref b)])) (fun t kt => ?_) ?_
    ·refine XS.ifnullNo X792.here hx rfl (hb hby d7_344) rfl ?_
     refine XS.aloadN X792.here hx rfl (hb hby d7_347) rfl rfl ?_
     exact kt
    refine own_getF X792 hx hZ hown (host := "") (Or.inl (Wd72 hw)) Via.refl e792 f793 (hb hby d7_348) (fun T794 X794 e794 => ?_)
    refine ownBy (A := T794.setTop (fr_add2 m b p1 q1 354 (.val (.int (2 : Int32))) (.val (.int (2 : Int32))) [(.ref b), (.int (2 : Int32)), (.ref b724)])) (fun t kt => ?_) ?_
    ·refine XS.iload X794.here hx rfl (hb hby d7_351) rfl ?_
     refine XS.aloadN X794.here hx rfl (hb hby d7_353) rfl rfl ?_
     exact kt
    refine own_getF X794 hx hZ hown (host := "") (Or.inl (Wd72 hw)) Via.refl e794 f793 (hb hby d7_354) (fun T795 X795 e795 => ?_)
    refine ownBy (A := T795.setTop (fr_add2 m b p1 q1 362 (.val (.int (2 : Int32))) (.val (.int (2 : Int32))) [(.ref b), (.int (3 : Int32)), (.ref b724), (.int (2 : Int32)), (.ref b724)])) (fun t kt => ?_) ?_
    ·refine XS.iload X795.here hx rfl (hb hby d7_357) rfl ?_
     refine XS.iconst X795.here hx rfl (hb hby d7_359) ?_
     refine XS.iadd X795.here hx rfl (hb hby d7_360) rfl ?_
     show Steps p.tables e below (T795.setTop (fr_add2 m b p1 q1 361 (.val (.int (2 : Int32))) (.val (.int (2 : Int32))) [(.int (3 : Int32)), (.ref b724), (.int (2 : Int32)), (.ref b724)])) t
     refine XS.aloadN X795.here hx rfl (hb hby d7_361) rfl rfl ?_
     exact kt
    have f797 := (((f774.keep K775 (ninS ne652 nin0)).other W781 (Or.inl ne651)).other W788 (Or.inl ne652))
    refine own_getF X795 hx hZ hown (host := "") (Or.inl (Wd64 hw)) Via.refl e795 f797 (hb hby d7_362) (fun T796 X796 e796 => ?_)
    refine ownBy (A := T796.setTop (fr_add2 m b p1 q1 368 (.val (.int (2 : Int32))) (.val (.int (2 : Int32))) [(.int (0 : Int32)), (.int (3 : Int32)), (.ref b724), (.int (2 : Int32)), (.ref b724)])) (fun t kt => ?_) ?_
    ·refine XS.iload X796.here hx rfl (hb hby d7_365) rfl ?_
     refine XS.isub X796.here hx rfl (hb hby d7_367) rfl ?_
     exact kt
    have f799 := ((((V755.keep K768 (ninS (Ne.symm ne726) nin0)).keep K775 (ninS (Ne.symm ne727) nin0)).other W781 (Ne.symm ne726)).other W788 (Ne.symm ne727))
    obtain ⟨T798, h798, L798, X798, e798, Nq798, K798, A798, st798⟩ := cpA X796 hx hZ hown (Wd68 hw) (Wd71 hw) (Wd69 hw) (Wd70 hw) e796 f799 f799 (us := []) (Or.inl ⟨rfl, rfl⟩) (sp := (2 : Int32)) (dp := (3 : Int32)) (nn := (0 : Int32)) (by decide) (by decide) (by decide) (by decide) (by decide) rfl (oLe rfl) Nh791 g729 (g := (fr_add2 m b p1 q1 368 (.val (.int (2 : Int32))) (.val (.int (2 : Int32))) [(.int (0 : Int32)), (.int (3 : Int32)), (.ref b724), (.int (2 : Int32)), (.ref b724)])) rfl (by rw [hml]; rfl) rfl (hb hby d7_368) (by decide) (W := 0) (by show 2 * 0 + _ ≤ _; exact Nat.le_of_eq rfl) (by decide)
    have V800 : Arv Z h798 b724 k724 .long (8 : Int32) [(.long (f1 + (0 : Int64))), (.long (f1 + (1 : Int64))), (.long (0 : Int64)), (.long (0 : Int64)), (.long (0 : Int64)), (.long (0 : Int64)), (.long (0 : Int64)), (.long (0 : Int64))] (.long (0 : Int64)) := A798
    refine ownBy st798 ?_
    clear st798
    show ownG p.tables e below _ (T798.setTop (fr_add2 m b p1 q1 371 (.val (.int (2 : Int32))) (.val (.int (2 : Int32))) []))
    refine ownBy (A := T798.setTop (fr_add2 m b p1 q1 372 (.val (.int (2 : Int32))) (.val (.int (2 : Int32))) [(.ref b)])) (fun t kt => ?_) ?_
    ·refine XS.aloadN X798.here hx rfl (hb hby d7_371) rfl rfl ?_
     exact kt
    have f802 := (f793.keep K798 (ninS ne725 nin0))
    refine own_getF X798 hx hZ hown (host := "") (Or.inl (Wd72 hw)) Via.refl e798 f802 (hb hby d7_372) (fun T801 X801 e801 => ?_)
    refine ownBy (A := T801.setTop (fr_add2 m b p1 q1 379 (.val (.int (2 : Int32))) (.val (.int (2 : Int32))) [(.long q1), (.int (2 : Int32)), (.ref b724)])) (fun t kt => ?_) ?_
    ·refine XS.iload X801.here hx rfl (hb hby d7_375) rfl ?_
     refine XS.lload X801.here hx rfl (hb hby d7_377) rfl ?_
     exact kt
    obtain ⟨cl803, Ar803, q803, S803, N803, H803, G803⟩ := id V800
    have hin803 : ¬ ((2 : Int32) < 0 ∨ cl803.slots.size ≤ ((2 : Int32)).toNatClampNeg) := inb_of S803 ⟨by decide, by decide⟩
    obtain ⟨T803, h803, X803, e803, W803, st803⟩ := stJ X801 hx hZ e801 Ar803 (j := (2 : Int32)) hin803 (g := (fr_add2 m b p1 q1 379 (.val (.int (2 : Int32))) (.val (.int (2 : Int32))) [(.long q1), (.int (2 : Int32)), (.ref b724)])) rfl rfl (hb hby d7_379)
    have V804 : Arv Z h803 b724 k724 .long (8 : Int32) [(.long (f1 + (0 : Int64))), (.long (f1 + (1 : Int64))), (.long q1), (.long (0 : Int64)), (.long (0 : Int64)), (.long (0 : Int64)), (.long (0 : Int64)), (.long (0 : Int64))] (.long (0 : Int64)) := Arv.set Ar803 q803 S803 N803 H803 G803 rfl W803 2 rfl (oLe rfl)
    clear hin803 G803 H803 N803 S803 q803 Ar803 cl803 V800
    have N805 := Fr.snoc X803 Nq798 g729
    obtain ⟨Lh806, Xh806, Nh806⟩ := oHd 1 8 X803 N805 rfl rfl
    refine ownBy st803 ?_
    clear st803
    show ownG p.tables e below _ (T803.setTop (fr_add2 m b p1 q1 380 (.val (.int (2 : Int32))) (.val (.int (2 : Int32))) []))
    refine ownBy (A := T803.setTop (fr_add2 m b p1 q1 386 (.val (.int (2 : Int32))) (.val (.int (0 : Int32))) [(.ref b), (.int (0 : Int32))])) (fun t kt => ?_) ?_
    ·refine XS.iconst Xh806.here hx rfl (hb hby d7_380) ?_
     refine XS.istore Xh806.here hx rfl (hb hby d7_381) rfl (l' := #[.val (.ref b), .val (.int p1), .val .null, .val .null, .val (.long q1), .second, .val (.int (2 : Int32)), .val (.int (0 : Int32)), .unset]) rfl ?_
     refine XS.iload Xh806.here hx rfl (hb hby d7_383) rfl ?_
     show Steps p.tables e below (T803.setTop (fr_add2 m b p1 q1 385 (.val (.int (2 : Int32))) (.val (.int (0 : Int32))) [(.int (0 : Int32))])) t
     refine XS.aloadN Xh806.here hx rfl (hb hby d7_385) rfl rfl ?_
     exact kt
    have f808 := ((((((((((Fn.ext E724).other W732 (Or.inr (slot_ne (Or.inr (Wd58 hw)) (Or.inl (Wd73 hw)) (by decide) (t := (.array (.array .long))) (t' := (.array .long)) (by decide) (by decide)))).other W744 (Or.inl ne725)).other W754 (Or.inl ne725)).keep K768 (ninS ne651 nin0)).keep K775 (ninS ne652 nin0)).other W781 (Or.inl ne651)).other W788 (Or.inl ne652)).keep K798 (ninS ne725 nin0)).other W803 (Or.inl ne725))
    refine own_getF Xh806 hx hZ hown (host := "") (Or.inl (Wd57 hw)) Via.refl e803 f808 (hb hby d7_386) (fun T807 X807 e807 => ?_)
    have f809 := ((((((((((An.ext E724).other W732 (Ne.symm ne653)).other W744 ne728).other W754 ne728).keep K768 (ninS (Ne.symm ne655) nin0)).keep K775 (ninS (Ne.symm ne656) nin0)).other W781 (Ne.symm ne655)).other W788 (Ne.symm ne656)).keep K798 (ninS ne728 nin0)).other W803 ne728)
    obtain ⟨cl810, Ar810, -, S810, N810, -, -⟩ := id f809
    have st810 := X807.arraylength hx (by rw [e807]; exact Ar810.1) (State.isArrayOf_alike hZ.alike Ar810.2.1) (g := (fr_add2 m b p1 q1 389 (.val (.int (2 : Int32))) (.val (.int (0 : Int32))) [(.ref nn), (.int (0 : Int32))])) rfl rfl (hb hby d7_389)
    rw [len_of S810 N810] at st810
    refine ownBy st810 ?_
    show ownG p.tables e below _ (T807.setTop (fr_add2 m b p1 q1 390 (.val (.int (2 : Int32))) (.val (.int (0 : Int32))) [(.int (0 : Int32)), (.int (0 : Int32))]))
    refine ownBy (A := T807.setTop (fr_add2 m b p1 q1 463 (.val (.int (2 : Int32))) (.val (.int (0 : Int32))) [(.ref b), (.ref b)])) (fun t kt => ?_) ?_
    ·refine XS.icmpYes X807.here hx rfl (pc0 := 390) (pc' := 461) rfl (hb hby d7_390) rfl (flt ((by decide) : ¬ ((0 : Int32) < (0 : Int32)))).2.1 (by decide) (by decide) ?_
     refine XS.aloadN X807.here hx rfl (hb hby d7_461) rfl rfl ?_
     refine XS.dup X807.here hx rfl (hb hby d7_462) rfl rfl ?_
     exact kt
    have f812 := ((f797.keep K798 (ninS ne725 nin0)).other W803 (Or.inl ne725))
    refine own_getF X807 hx hZ hown (host := "") (Or.inl (Wd64 hw)) Via.refl e807 f812 (hb hby d7_463) (fun T811 X811 e811 => ?_)
    refine ownBy (A := T811.setTop (fr_add2 m b p1 q1 468 (.val (.int (2 : Int32))) (.val (.int (0 : Int32))) [(.int (3 : Int32)), (.ref b)])) (fun t kt => ?_) ?_
    ·refine XS.iconst X811.here hx rfl (hb hby d7_466) ?_
     refine XS.iadd X811.here hx rfl (hb hby d7_467) rfl ?_
     exact kt
    have f814 := (((((((((f734.wr W732).wr W744).wr W754).keep K768).keep K775).wr W781).wr W788).keep K798).wr W803)
    obtain ⟨T813, h813, X813, e813, W813, st813⟩ := putF X811 hx hZ hown (host := "") (Or.inl (Wd64 hw)) Via.refl e811 f812 f814 (Or.inl (Wd65 hw)) (Wd3 hw) (ty := .int) (by decide) rfl rfl (g := (fr_add2 m b p1 q1 468 (.val (.int (2 : Int32))) (.val (.int (0 : Int32))) [(.int (3 : Int32)), (.ref b)])) rfl rfl (hb hby d7_468)
    have F815 := f812.same W813
    have N816 := Fr.snoc X813 Nh806 gb
    obtain ⟨Lh817, Xh817, Nh817⟩ := oHd 1 8 X813 N816 rfl rfl
    refine ownBy st813 ?_
    clear st813
    show ownG p.tables e below _ (T813.setTop (fr_add2 m b p1 q1 471 (.val (.int (2 : Int32))) (.val (.int (0 : Int32))) []))
    have f818 := (V804.other W813 (Ne.symm ne725))
    have f820 := (f814.wr W813)
    have f821 := (((((f779.other W781 (Or.inl ne651)).other W788 (Or.inl ne652)).keep K798 (ninS ne725 nin0)).other W803 (Or.inl ne725)).other W813 (Or.inr (slot_ne (Or.inl (Wd36 hw)) (Or.inl (Wd65 hw)) (by decide) (t := (.array .int)) (t' := .int) (by decide) (by decide))))
    have f822 := ((((f786.other W788 (Or.inl ne652)).keep K798 (ninS ne725 nin0)).other W803 (Or.inl ne725)).other W813 (Or.inr (slot_ne (Or.inl (Wd40 hw)) (Or.inl (Wd65 hw)) (by decide) (t := (.array (.object "java/math/BigDecimal"))) (t' := .int) (by decide) (by decide))))
    have f823 := (f808.other W813 (Or.inr (slot_ne (Or.inr (Wd58 hw)) (Or.inl (Wd65 hw)) (by decide) (t := (.array (.array .long))) (t' := .int) (by decide) (by decide))))
    have f824 := ((((((((f753.other W754 (Or.inl ne725)).keep K768 (ninS ne651 nin0)).keep K775 (ninS ne652 nin0)).other W781 (Or.inl ne651)).other W788 (Or.inl ne652)).keep K798 (ninS ne725 nin0)).other W803 (Or.inl ne725)).other W813 (Or.inr (slot_ne (Or.inl (Wd67 hw)) (Or.inl (Wd65 hw)) (by decide) (t := .long) (t' := .int) (by decide) (by decide))))
    have f825 := ((f802.other W803 (Or.inl ne725)).other W813 (Or.inr (slot_ne (Or.inl (Wd73 hw)) (Or.inl (Wd65 hw)) (by decide) (t := (.array .long)) (t' := .int) (by decide) (by decide))))
    have f826 := ((((V782.other W788 ne654).keep K798 (ninS ne726 nin0)).other W803 ne726).other W813 (Ne.symm ne651))
    have f827 := (((V789.keep K798 (ninS ne727 nin0)).other W803 ne727).other W813 (Ne.symm ne652))
    have f828 := (f809.other W813 (Ne.symm ne653))
    have f829 := (Nat.le_trans (Nat.le_trans (Nat.le_trans (Nat.le_trans (Nat.le_trans (Nat.le_trans (Nat.le_trans (Nat.le_trans (Nat.le_trans (Nat.le_trans (Nat.le_trans (Nat.le_refl h0.size) E724.1) (Keep.of_wr W732).1) (Keep.of_wr W744).1) (Keep.of_wr W754).1) K768.1) K775.1) (Keep.of_wr W781).1) (Keep.of_wr W788).1) K798.1) (Keep.of_wr W803).1) (Keep.of_wr W813).1)
    refine ownRet Xh817 Bd.notSynchronized (v := none) (fun _ => rfl) ?_ (oLe rfl) (oLe rfl) (fun fs hr => Xh817.returnOut hx Bd.returns (hb hby d7_471) hr)
    show (Q_add2 Z b y hh nn ky kh kn z0 z1 m0 m1 f1 lv p1 q1 h0 n0) (none) T813.heap _
    rw [e813]
    have V819 := f818
    rw [← hm0, ← hm1] at V819
    exact ⟨rfl, Nh817, f829, z0, z1, p1, m0, m1, q1, f1, (.ref b724), hs0, hc662, Or.inr (Or.inr (⟨rfl, rfl, rfl, rfl, rfl, rfl⟩)), f820, f821, f822, f823, F815, f824, f825, f826, f827, f828, Or.inr ⟨b724, k724, rfl, g729, V819⟩⟩
  ·skip
   refine ownBy (A := T660.setTop (fr_add2 m b p1 q1 29 (.val (.int (2 : Int32))) .unset [(.ref b)])) (fun t kt => ?_) ?_
   ·refine XS.icmpNo X660.here hx rfl (hb hby d7_25) rfl (flt hc662).1 ?_
    refine XS.aloadN X660.here hx rfl (hb hby d7_28) rfl rfl ?_
    exact kt
   refine own_getF X660 hx hZ hown (host := "") (Or.inl (Wd35 hw)) Via.refl e660 Fy (hb hby d7_29) (fun T830 X830 e830 => ?_)
   refine ownBy (A := T830.setTop (fr_add2 m b p1 q1 34 (.val (.int (2 : Int32))) .unset [(.ref b), (.int (0 : Int32)), (.ref y)])) (fun t kt => ?_) ?_
   ·refine XS.iconst X830.here hx rfl (hb hby d7_32) ?_
    refine XS.aloadN X830.here hx rfl (hb hby d7_33) rfl rfl ?_
    exact kt
   refine own_getF X830 hx hZ hown (host := "") (Or.inl (Wd64 hw)) Via.refl e830 Fs (hb hby d7_34) (fun T831 X831 e831 => ?_)
   refine ownBy (A := T831.setTop (fr_add2 m b p1 q1 38 (.val (.int (2 : Int32))) .unset [(.int p1), (.int (2 : Int32)), (.int (0 : Int32)), (.ref y)])) (fun t kt => ?_) ?_
   ·refine XS.iloadN X831.here hx rfl (hb hby d7_37) rfl ?_
    exact kt
   obtain ⟨vv832, _, ⟨T832, L832, k832, n832⟩, -, X832, ⟨Lc832, hQ832, l832, y832, z832⟩, st832⟩ := Jvm.LawKit.callS X831 hx (y := (⟨"java/util/Arrays", "binarySearch", "([IIII)I"⟩ : MethodName)) hown (mvT hZ (Wd79 hw)) (mvT hZ (Wd80 hw)) (mvT hZ (Wd81 hw)) (mvT hZ (Wd82 hw)) (by decide) (backOf (W := 0) (c_bs2 l Z a0 hw [] y ky z0 z1 p1 h0 n0 Z0 Ay) hZ (Wd82 hw) (Wd81 hw) (by decide) (by decide)) (g := (fr_add2 m b p1 q1 38 (.val (.int (2 : Int32))) .unset [(.int p1), (.int (2 : Int32)), (.int (0 : Int32)), (.ref y)])) rfl (by rw [hml]; rfl) (argsL := [(.ref y), (.int (0 : Int32)), (.int (2 : Int32)), (.int p1)]) (rest := []) (lenOf pd_11 rfl) rfl (by show 2 * 0 + _ ≤ _; exact Nat.le_of_eq rfl) (hb hby d7_38) (fun _ _ => ⟨rfl, e831, (by decide : 0 + 0 ≤ _), (by decide : 0 + 0 ≤ _)⟩)
   dsimp only [Pt.U, Pt.locs, Pt.cells, Pt.slots] at X832 l832 y832 z832 st832 hQ832
   subst l832 y832 z832
   obtain ⟨r832, rfl, Nq832, Eq832, hB832⟩ := hQ832
   rcases hB832 with ⟨hb832_0_0, hb832_0_1, rfl⟩ | ⟨hb832_1_0, hb832_1_1, hb832_1_2, rfl⟩ | ⟨hb832_2_0, hb832_2_1, hb832_2_2, rfl⟩ | ⟨hb832_3_0, hb832_3_1, rfl⟩ | ⟨hb832_4_0, hb832_4_1, rfl⟩
   ·skip
    exfalso
    simp only [Int32.lt_iff_toInt_lt, ← Int32.toInt_inj] at hb832_0_0 hb832_0_1 hc662 hs0
    omega
   ·skip
    have N833 := Fr.app N0 Nq832
    obtain ⟨Lh834, Xh834, Nh834⟩ := oHd 0 0 X832 N833 rfl rfl
    refine ownBy st832 ?_
    clear st832
    show ownG p.tables e below _ (T832.setTop (fr_add2 m b p1 q1 41 (.val (.int (2 : Int32))) .unset [(.int (-2 : Int32))]))
    refine ownBy (A := T832.setTop (fr_add2 m b p1 q1 70 (.val (.int (1 : Int32))) .unset [(.ref b)])) (fun t kt => ?_) ?_
    ·refine XS.istore Xh834.here hx rfl (hb hby d7_41) rfl (l' := #[.val (.ref b), .val (.int p1), .val .null, .val .null, .val (.long q1), .second, .val (.int (-2 : Int32)), .unset, .unset]) rfl ?_
     refine XS.iload Xh834.here hx rfl (hb hby d7_43) rfl ?_
     refine XS.ifYes Xh834.here hx rfl (pc0 := 45) (pc' := 62) rfl (hb hby d7_45) rfl ((if0 _ _).trans (tlt ((by decide) : (-2 : Int32) < (0 : Int32))).1) (by decide) (by decide) ?_
     show Steps p.tables e below (T832.setTop (fr_add2 m b p1 q1 62 (.val (.int (-2 : Int32))) .unset [])) t
     refine XS.iload Xh834.here hx rfl (hb hby d7_62) rfl ?_
     refine XS.ineg Xh834.here hx rfl (hb hby d7_64) rfl ?_
     refine XS.iconst Xh834.here hx rfl (hb hby d7_65) ?_
     show Steps p.tables e below (T832.setTop (fr_add2 m b p1 q1 66 (.val (.int (-2 : Int32))) .unset [(.int (1 : Int32)), (.int (2 : Int32))])) t
     refine XS.isub Xh834.here hx rfl (hb hby d7_66) rfl ?_
     refine XS.istore Xh834.here hx rfl (hb hby d7_67) rfl (l' := #[.val (.ref b), .val (.int p1), .val .null, .val .null, .val (.long q1), .second, .val (.int (1 : Int32)), .unset, .unset]) rfl ?_
     refine XS.aloadN Xh834.here hx rfl (hb hby d7_69) rfl rfl ?_
     exact kt
    refine own_getF Xh834 hx hZ hown (host := "") (Or.inl (Wd64 hw)) Via.refl Eq832 Fs (hb hby d7_70) (fun T835 X835 e835 => ?_)
    refine ownBy (A := T835.setTop (fr_add2 m b p1 q1 86 (.val (.int (1 : Int32))) .unset [(.ref b)])) (fun t kt => ?_) ?_
    ·refine XS.ifYes X835.here hx rfl (pc0 := 73) (pc' := 85) rfl (hb hby d7_73) rfl ((if0 _ _).trans (feq ((by decide) : ¬ ((2 : Int32) = (0 : Int32)))).2) (by decide) (by decide) ?_
     refine XS.aloadN X835.here hx rfl (hb hby d7_85) rfl rfl ?_
     exact kt
    refine own_getF X835 hx hZ hown (host := "") (Or.inl (Wd72 hw)) Via.refl e835 Fl (hb hby d7_86) (fun T836 X836 e836 => ?_)
    refine ownBy (A := T836.setTop (fr_add2 m b p1 q1 95 (.val (.int (1 : Int32))) .unset [(.ref b), (.int (1 : Int32))])) (fun t kt => ?_) ?_
    ·refine XS.ifnonnullNo X836.here hx rfl (hb hby d7_89) rfl ?_
     refine XS.iload X836.here hx rfl (hb hby d7_92) rfl ?_
     refine XS.aloadN X836.here hx rfl (hb hby d7_94) rfl rfl ?_
     exact kt
    refine own_getF X836 hx hZ hown (host := "") (Or.inl (Wd64 hw)) Via.refl e836 Fs (hb hby d7_95) (fun T837 X837 e837 => ?_)
    refine ownBy (A := T837.setTop (fr_add2 m b p1 q1 119 (.val (.int (1 : Int32))) .unset [(.ref b), (.ref b)])) (fun t kt => ?_) ?_
    ·refine XS.icmpYes X837.here hx rfl (pc0 := 98) (pc' := 117) rfl (hb hby d7_98) rfl (feq ((by decide) : ¬ ((1 : Int32) = (2 : Int32)))).2 (by decide) (by decide) ?_
     refine XS.aloadN X837.here hx rfl (hb hby d7_117) rfl rfl ?_
     refine XS.aloadN X837.here hx rfl (hb hby d7_118) rfl rfl ?_
     exact kt
    refine own_getF X837 hx hZ hown (host := "") (Or.inl (Wd35 hw)) Via.refl e837 Fy (hb hby d7_119) (fun T838 X838 e838 => ?_)
    obtain ⟨cl839, Ar839, -, S839, N839, -, -⟩ := id Ay
    have st839 := X838.arraylength hx (by rw [e838]; exact Ar839.1) (State.isArrayOf_alike hZ.alike Ar839.2.1) (g := (fr_add2 m b p1 q1 122 (.val (.int (1 : Int32))) .unset [(.ref y), (.ref b)])) rfl rfl (hb hby d7_122)
    rw [len_of S839 N839] at st839
    refine ownBy st839 ?_
    show ownG p.tables e below _ (T838.setTop (fr_add2 m b p1 q1 123 (.val (.int (1 : Int32))) .unset [(.int (8 : Int32)), (.ref b)]))
    obtain ⟨T840, h840, k840, X840, e840, E840, A840, st840⟩ := newP X838 hx hZ (aty := .long) (Wd56 hw) e838 (g := (fr_add2 m b p1 q1 123 (.val (.int (1 : Int32))) .unset [(.int (8 : Int32)), (.ref b)])) rfl (hb hby d7_123) rfl (by decide : ¬ ((8 : Int32) < (0 : Int32))) (cap := 8) (by decide) (by decide) (by decide) (by decide)
    obtain ⟨b840, g840⟩ : ∃ z, z = h0.size := ⟨_, rfl⟩
    rw [← g840] at A840 st840
    have ne841 : b ≠ b840 := Nat.ne_of_lt (Nat.lt_of_lt_of_le E1.lt (Nat.le_of_eq g840.symm))
    have ne842 : y ≠ b840 := Nat.ne_of_lt (Nat.lt_of_lt_of_le Ay.lt (Nat.le_of_eq g840.symm))
    have ne843 : hh ≠ b840 := Nat.ne_of_lt (Nat.lt_of_lt_of_le Ah.lt (Nat.le_of_eq g840.symm))
    have ne844 : nn ≠ b840 := Nat.ne_of_lt (Nat.lt_of_lt_of_le An.lt (Nat.le_of_eq g840.symm))
    have g845 : n0 ≤ b840 := Nat.le_trans Z0 (Nat.le_of_eq g840.symm)
    have z846 : h0.size ≤ b840 := Nat.le_trans (Nat.le_refl h0.size) (Nat.le_of_eq g840.symm)
    have V847 : Arv Z h840 b840 k840 .long (8 : Int32) [(.long (0 : Int64)), (.long (0 : Int64)), (.long (0 : Int64)), (.long (0 : Int64)), (.long (0 : Int64)), (.long (0 : Int64)), (.long (0 : Int64)), (.long (0 : Int64))] (.long (0 : Int64)) := (Arv.new A840 (by decide)).pad (pad_rep [] (.long (0 : Int64)) 8)
    refine ownBy st840 ?_
    clear st840
    show ownG p.tables e below _ (T840.setTop (fr_add2 m b p1 q1 125 (.val (.int (1 : Int32))) .unset [(.ref b840), (.ref b)]))
    have f849 := (Fl.ext E840)
    have f850 := (E1.ext E840)
    obtain ⟨T848, h848, X848, e848, W848, st848⟩ := putF X840 hx hZ hown (host := "") (Or.inl (Wd72 hw)) Via.refl e840 f849 f850 (Or.inl (Wd73 hw)) (Wd3 hw) (ty := (.array .long)) (by decide) rfl rfl (g := (fr_add2 m b p1 q1 125 (.val (.int (1 : Int32))) .unset [(.ref b840), (.ref b)])) rfl rfl (hb hby d7_125)
    have F851 := f849.same W848
    have N852 := Fr.snoc X848 Nh834 gb
    obtain ⟨Lh853, Xh853, Nh853⟩ := oHd 1 8 X848 N852 rfl rfl
    refine ownBy st848 ?_
    clear st848
    show ownG p.tables e below _ (T848.setTop (fr_add2 m b p1 q1 128 (.val (.int (1 : Int32))) .unset []))
    refine ownBy (A := T848.setTop (fr_add2 m b p1 q1 134 (.val (.int (1 : Int32))) (.val (.int (0 : Int32))) [(.ref b), (.int (0 : Int32))])) (fun t kt => ?_) ?_
    ·refine XS.iconst Xh853.here hx rfl (hb hby d7_128) ?_
     refine XS.istore Xh853.here hx rfl (hb hby d7_129) rfl (l' := #[.val (.ref b), .val (.int p1), .val .null, .val .null, .val (.long q1), .second, .val (.int (1 : Int32)), .val (.int (0 : Int32)), .unset]) rfl ?_
     refine XS.iload Xh853.here hx rfl (hb hby d7_131) rfl ?_
     show Steps p.tables e below (T848.setTop (fr_add2 m b p1 q1 133 (.val (.int (1 : Int32))) (.val (.int (0 : Int32))) [(.int (0 : Int32))])) t
     refine XS.aloadN Xh853.here hx rfl (hb hby d7_133) rfl rfl ?_
     exact kt
    have f855 := ((Fs.ext E840).other W848 (Or.inr (slot_ne (Or.inl (Wd65 hw)) (Or.inl (Wd73 hw)) (by decide) (t := .int) (t' := (.array .long)) (by decide) (by decide))))
    refine own_getF Xh853 hx hZ hown (host := "") (Or.inl (Wd64 hw)) Via.refl e848 f855 (hb hby d7_134) (fun T854 X854 e854 => ?_)
    refine ownBy (A := T854.setTop (fr_add2 m b p1 q1 141 (.val (.int (1 : Int32))) (.val (.int (0 : Int32))) [(.ref b)])) (fun t kt => ?_) ?_
    ·refine XS.icmpNo X854.here hx rfl (hb hby d7_137) rfl (tlt ((by decide) : (0 : Int32) < (2 : Int32))).2.1 ?_
     refine XS.aloadN X854.here hx rfl (hb hby d7_140) rfl rfl ?_
     exact kt
    refine own_getF X854 hx hZ hown (host := "") (Or.inl (Wd72 hw)) Via.refl e854 F851 (hb hby d7_141) (fun T856 X856 e856 => ?_)
    refine ownBy (A := T856.setTop (fr_add2 m b p1 q1 147 (.val (.int (1 : Int32))) (.val (.int (0 : Int32))) [(.ref b), (.int (0 : Int32)), (.ref b840)])) (fun t kt => ?_) ?_
    ·refine XS.iload X856.here hx rfl (hb hby d7_144) rfl ?_
     refine XS.aloadN X856.here hx rfl (hb hby d7_146) rfl rfl ?_
     exact kt
    have f858 := ((Ff.ext E840).other W848 (Or.inr (slot_ne (Or.inl (Wd67 hw)) (Or.inl (Wd73 hw)) (by decide) (t := .long) (t' := (.array .long)) (by decide) (by decide))))
    refine own_getF X856 hx hZ hown (host := "") (Or.inl (Wd66 hw)) Via.refl e856 f858 (hb hby d7_147) (fun T857 X857 e857 => ?_)
    refine ownBy (A := T857.setTop (fr_add2 m b p1 q1 154 (.val (.int (1 : Int32))) (.val (.int (0 : Int32))) [(.long (f1 + (0 : Int64))), (.int (0 : Int32)), (.ref b840)])) (fun t kt => ?_) ?_
    ·refine XS.iload X857.here hx rfl (hb hby d7_150) rfl ?_
     refine XS.i2l X857.here hx rfl (hb hby d7_152) rfl ?_
     refine XS.ladd X857.here hx rfl (hb hby d7_153) rfl ?_
     exact kt
    have f859 := (V847.other W848 (Ne.symm ne841))
    obtain ⟨cl860, Ar860, q860, S860, N860, H860, G860⟩ := id f859
    have hin860 : ¬ ((0 : Int32) < 0 ∨ cl860.slots.size ≤ ((0 : Int32)).toNatClampNeg) := inb_of S860 ⟨by decide, by decide⟩
    obtain ⟨T860, h860, X860, e860, W860, st860⟩ := stJ X857 hx hZ e857 Ar860 (j := (0 : Int32)) hin860 (g := (fr_add2 m b p1 q1 154 (.val (.int (1 : Int32))) (.val (.int (0 : Int32))) [(.long (f1 + (0 : Int64))), (.int (0 : Int32)), (.ref b840)])) rfl rfl (hb hby d7_154)
    have V861 : Arv Z h860 b840 k840 .long (8 : Int32) [(.long (f1 + (0 : Int64))), (.long (0 : Int64)), (.long (0 : Int64)), (.long (0 : Int64)), (.long (0 : Int64)), (.long (0 : Int64)), (.long (0 : Int64)), (.long (0 : Int64))] (.long (0 : Int64)) := Arv.set Ar860 q860 S860 N860 H860 G860 rfl W860 0 rfl (oLe rfl)
    clear hin860 G860 H860 N860 S860 q860 Ar860 cl860 f859
    have N862 := Fr.snoc X860 Nh853 g845
    obtain ⟨Lh863, Xh863, Nh863⟩ := oHd 1 8 X860 N862 rfl rfl
    refine ownBy st860 ?_
    clear st860
    show ownG p.tables e below _ (T860.setTop (fr_add2 m b p1 q1 155 (.val (.int (1 : Int32))) (.val (.int (0 : Int32))) []))
    refine ownBy (A := T860.setTop (fr_add2 m b p1 q1 134 (.val (.int (1 : Int32))) (.val (.int (1 : Int32))) [(.ref b), (.int (1 : Int32))])) (fun t kt => ?_) ?_
    ·refine XS.iinc Xh863.here hx rfl (hb hby d7_155) rfl (l' := #[.val (.ref b), .val (.int p1), .val .null, .val .null, .val (.long q1), .second, .val (.int (1 : Int32)), .val (.int (1 : Int32)), .unset]) rfl ?_
     refine XS.goto Xh863.here hx rfl (pc0 := 158) (pc' := 131) rfl (hb hby d7_158) (by decide) (by decide) ?_
     refine XS.iload Xh863.here hx rfl (hb hby d7_131) rfl ?_
     show Steps p.tables e below (T860.setTop (fr_add2 m b p1 q1 133 (.val (.int (1 : Int32))) (.val (.int (1 : Int32))) [(.int (1 : Int32))])) t
     refine XS.aloadN Xh863.here hx rfl (hb hby d7_133) rfl rfl ?_
     exact kt
    have f865 := (f855.other W860 (Or.inl ne841))
    refine own_getF Xh863 hx hZ hown (host := "") (Or.inl (Wd64 hw)) Via.refl e860 f865 (hb hby d7_134) (fun T864 X864 e864 => ?_)
    refine ownBy (A := T864.setTop (fr_add2 m b p1 q1 141 (.val (.int (1 : Int32))) (.val (.int (1 : Int32))) [(.ref b)])) (fun t kt => ?_) ?_
    ·refine XS.icmpNo X864.here hx rfl (hb hby d7_137) rfl (tlt ((by decide) : (1 : Int32) < (2 : Int32))).2.1 ?_
     refine XS.aloadN X864.here hx rfl (hb hby d7_140) rfl rfl ?_
     exact kt
    have f867 := (F851.other W860 (Or.inl ne841))
    refine own_getF X864 hx hZ hown (host := "") (Or.inl (Wd72 hw)) Via.refl e864 f867 (hb hby d7_141) (fun T866 X866 e866 => ?_)
    refine ownBy (A := T866.setTop (fr_add2 m b p1 q1 147 (.val (.int (1 : Int32))) (.val (.int (1 : Int32))) [(.ref b), (.int (1 : Int32)), (.ref b840)])) (fun t kt => ?_) ?_
    ·refine XS.iload X866.here hx rfl (hb hby d7_144) rfl ?_
     refine XS.aloadN X866.here hx rfl (hb hby d7_146) rfl rfl ?_
     exact kt
    have f869 := (f858.other W860 (Or.inl ne841))
    refine own_getF X866 hx hZ hown (host := "") (Or.inl (Wd66 hw)) Via.refl e866 f869 (hb hby d7_147) (fun T868 X868 e868 => ?_)
    refine ownBy (A := T868.setTop (fr_add2 m b p1 q1 154 (.val (.int (1 : Int32))) (.val (.int (1 : Int32))) [(.long (f1 + (1 : Int64))), (.int (1 : Int32)), (.ref b840)])) (fun t kt => ?_) ?_
    ·refine XS.iload X868.here hx rfl (hb hby d7_150) rfl ?_
     refine XS.i2l X868.here hx rfl (hb hby d7_152) rfl ?_
     refine XS.ladd X868.here hx rfl (hb hby d7_153) rfl ?_
     exact kt
    obtain ⟨cl870, Ar870, q870, S870, N870, H870, G870⟩ := id V861
    have hin870 : ¬ ((1 : Int32) < 0 ∨ cl870.slots.size ≤ ((1 : Int32)).toNatClampNeg) := inb_of S870 ⟨by decide, by decide⟩
    obtain ⟨T870, h870, X870, e870, W870, st870⟩ := stJ X868 hx hZ e868 Ar870 (j := (1 : Int32)) hin870 (g := (fr_add2 m b p1 q1 154 (.val (.int (1 : Int32))) (.val (.int (1 : Int32))) [(.long (f1 + (1 : Int64))), (.int (1 : Int32)), (.ref b840)])) rfl rfl (hb hby d7_154)
    have V871 : Arv Z h870 b840 k840 .long (8 : Int32) [(.long (f1 + (0 : Int64))), (.long (f1 + (1 : Int64))), (.long (0 : Int64)), (.long (0 : Int64)), (.long (0 : Int64)), (.long (0 : Int64)), (.long (0 : Int64)), (.long (0 : Int64))] (.long (0 : Int64)) := Arv.set Ar870 q870 S870 N870 H870 G870 rfl W870 1 rfl (oLe rfl)
    clear hin870 G870 H870 N870 S870 q870 Ar870 cl870 V861
    have N872 := Fr.snoc X870 Nh863 g845
    obtain ⟨Lh873, Xh873, Nh873⟩ := oHd 1 8 X870 N872 rfl rfl
    refine ownBy st870 ?_
    clear st870
    show ownG p.tables e below _ (T870.setTop (fr_add2 m b p1 q1 155 (.val (.int (1 : Int32))) (.val (.int (1 : Int32))) []))
    refine ownBy (A := T870.setTop (fr_add2 m b p1 q1 134 (.val (.int (1 : Int32))) (.val (.int (2 : Int32))) [(.ref b), (.int (2 : Int32))])) (fun t kt => ?_) ?_
    ·refine XS.iinc Xh873.here hx rfl (hb hby d7_155) rfl (l' := #[.val (.ref b), .val (.int p1), .val .null, .val .null, .val (.long q1), .second, .val (.int (1 : Int32)), .val (.int (2 : Int32)), .unset]) rfl ?_
     refine XS.goto Xh873.here hx rfl (pc0 := 158) (pc' := 131) rfl (hb hby d7_158) (by decide) (by decide) ?_
     refine XS.iload Xh873.here hx rfl (hb hby d7_131) rfl ?_
     show Steps p.tables e below (T870.setTop (fr_add2 m b p1 q1 133 (.val (.int (1 : Int32))) (.val (.int (2 : Int32))) [(.int (2 : Int32))])) t
     refine XS.aloadN Xh873.here hx rfl (hb hby d7_133) rfl rfl ?_
     exact kt
    have f875 := (f865.other W870 (Or.inl ne841))
    refine own_getF Xh873 hx hZ hown (host := "") (Or.inl (Wd64 hw)) Via.refl e870 f875 (hb hby d7_134) (fun T874 X874 e874 => ?_)
    refine ownBy (A := T874.setTop (fr_add2 m b p1 q1 162 (.val (.int (1 : Int32))) (.val (.int (2 : Int32))) [(.ref b)])) (fun t kt => ?_) ?_
    ·refine XS.icmpYes X874.here hx rfl (pc0 := 137) (pc' := 161) rfl (hb hby d7_137) rfl (flt ((by decide) : ¬ ((2 : Int32) < (2 : Int32)))).2.1 (by decide) (by decide) ?_
     refine XS.aloadN X874.here hx rfl (hb hby d7_161) rfl rfl ?_
     exact kt
    refine own_getF X874 hx hZ hown (host := "") (Or.inl (Wd64 hw)) Via.refl e874 f875 (hb hby d7_162) (fun T876 X876 e876 => ?_)
    refine ownBy (A := T876.setTop (fr_add2 m b p1 q1 166 (.val (.int (1 : Int32))) (.val (.int (2 : Int32))) [(.ref b), (.int (2 : Int32))])) (fun t kt => ?_) ?_
    ·refine XS.aloadN X876.here hx rfl (hb hby d7_165) rfl rfl ?_
     exact kt
    have f878 := ((((Fy.ext E840).other W848 (Or.inr (slot_ne (Or.inl (Wd36 hw)) (Or.inl (Wd73 hw)) (by decide) (t := (.array .int)) (t' := (.array .long)) (by decide) (by decide)))).other W860 (Or.inl ne841)).other W870 (Or.inl ne841))
    refine own_getF X876 hx hZ hown (host := "") (Or.inl (Wd35 hw)) Via.refl e876 f878 (hb hby d7_166) (fun T877 X877 e877 => ?_)
    have f879 := ((((Ay.ext E840).other W848 (Ne.symm ne651)).other W860 ne842).other W870 ne842)
    obtain ⟨cl880, Ar880, -, S880, N880, -, -⟩ := id f879
    have st880 := X877.arraylength hx (by rw [e877]; exact Ar880.1) (State.isArrayOf_alike hZ.alike Ar880.2.1) (g := (fr_add2 m b p1 q1 169 (.val (.int (1 : Int32))) (.val (.int (2 : Int32))) [(.ref y), (.int (2 : Int32))])) rfl rfl (hb hby d7_169)
    rw [len_of S880 N880] at st880
    refine ownBy st880 ?_
    show ownG p.tables e below _ (T877.setTop (fr_add2 m b p1 q1 170 (.val (.int (1 : Int32))) (.val (.int (2 : Int32))) [(.int (8 : Int32)), (.int (2 : Int32))]))
    refine ownBy (A := T877.setTop (fr_add2 m b p1 q1 277 (.val (.int (1 : Int32))) (.val (.int (2 : Int32))) [(.ref b)])) (fun t kt => ?_) ?_
    ·refine XS.icmpYes X877.here hx rfl (pc0 := 170) (pc' := 276) rfl (hb hby d7_170) rfl (feq ((by decide) : ¬ ((2 : Int32) = (8 : Int32)))).2 (by decide) (by decide) ?_
     refine XS.aloadN X877.here hx rfl (hb hby d7_276) rfl rfl ?_
     exact kt
    refine own_getF X877 hx hZ hown (host := "") (Or.inl (Wd35 hw)) Via.refl e877 f878 (hb hby d7_277) (fun T881 X881 e881 => ?_)
    refine ownBy (A := T881.setTop (fr_add2 m b p1 q1 283 (.val (.int (1 : Int32))) (.val (.int (2 : Int32))) [(.ref b), (.int (1 : Int32)), (.ref y)])) (fun t kt => ?_) ?_
    ·refine XS.iload X881.here hx rfl (hb hby d7_280) rfl ?_
     refine XS.aloadN X881.here hx rfl (hb hby d7_282) rfl rfl ?_
     exact kt
    refine own_getF X881 hx hZ hown (host := "") (Or.inl (Wd35 hw)) Via.refl e881 f878 (hb hby d7_283) (fun T882 X882 e882 => ?_)
    refine ownBy (A := T882.setTop (fr_add2 m b p1 q1 291 (.val (.int (1 : Int32))) (.val (.int (2 : Int32))) [(.ref b), (.int (2 : Int32)), (.ref y), (.int (1 : Int32)), (.ref y)])) (fun t kt => ?_) ?_
    ·refine XS.iload X882.here hx rfl (hb hby d7_286) rfl ?_
     refine XS.iconst X882.here hx rfl (hb hby d7_288) ?_
     refine XS.iadd X882.here hx rfl (hb hby d7_289) rfl ?_
     show Steps p.tables e below (T882.setTop (fr_add2 m b p1 q1 290 (.val (.int (1 : Int32))) (.val (.int (2 : Int32))) [(.int (2 : Int32)), (.ref y), (.int (1 : Int32)), (.ref y)])) t
     refine XS.aloadN X882.here hx rfl (hb hby d7_290) rfl rfl ?_
     exact kt
    refine own_getF X882 hx hZ hown (host := "") (Or.inl (Wd64 hw)) Via.refl e882 f875 (hb hby d7_291) (fun T883 X883 e883 => ?_)
    refine ownBy (A := T883.setTop (fr_add2 m b p1 q1 297 (.val (.int (1 : Int32))) (.val (.int (2 : Int32))) [(.int (1 : Int32)), (.int (2 : Int32)), (.ref y), (.int (1 : Int32)), (.ref y)])) (fun t kt => ?_) ?_
    ·refine XS.iload X883.here hx rfl (hb hby d7_294) rfl ?_
     refine XS.isub X883.here hx rfl (hb hby d7_296) rfl ?_
     exact kt
    obtain ⟨T884, h884, L884, X884, e884, Nq884, K884, A884, st884⟩ := cpA X883 hx hZ hown (Wd68 hw) (Wd71 hw) (Wd69 hw) (Wd70 hw) e883 f879 f879 (us := [(.int z1)]) (Or.inl ⟨rfl, rfl⟩) (sp := (1 : Int32)) (dp := (2 : Int32)) (nn := (1 : Int32)) (by decide) (by decide) (by decide) (by decide) (by decide) rfl (oLe rfl) Nh873 gy (g := (fr_add2 m b p1 q1 297 (.val (.int (1 : Int32))) (.val (.int (2 : Int32))) [(.int (1 : Int32)), (.int (2 : Int32)), (.ref y), (.int (1 : Int32)), (.ref y)])) rfl (by rw [hml]; rfl) rfl (hb hby d7_297) (by decide) (W := 0) (by show 2 * 0 + _ ≤ _; exact Nat.le_of_eq rfl) (by decide)
    have V885 : Arv Z h884 y ky .int (8 : Int32) [(.int z0), (.int z1), (.int z1), (.int (0 : Int32)), (.int (0 : Int32)), (.int (0 : Int32)), (.int (0 : Int32)), (.int (0 : Int32))] (.int (0 : Int32)) := A884
    refine ownBy st884 ?_
    clear st884
    show ownG p.tables e below _ (T884.setTop (fr_add2 m b p1 q1 300 (.val (.int (1 : Int32))) (.val (.int (2 : Int32))) []))
    refine ownBy (A := T884.setTop (fr_add2 m b p1 q1 301 (.val (.int (1 : Int32))) (.val (.int (2 : Int32))) [(.ref b)])) (fun t kt => ?_) ?_
    ·refine XS.aloadN X884.here hx rfl (hb hby d7_300) rfl rfl ?_
     exact kt
    have f887 := (((((Fh.ext E840).other W848 (Or.inr (slot_ne (Or.inl (Wd40 hw)) (Or.inl (Wd73 hw)) (by decide) (t := (.array (.object "java/math/BigDecimal"))) (t' := (.array .long)) (by decide) (by decide)))).other W860 (Or.inl ne841)).other W870 (Or.inl ne841)).keep K884 (ninS ne651 nin0))
    refine own_getF X884 hx hZ hown (host := "") (Or.inl (Wd39 hw)) Via.refl e884 f887 (hb hby d7_301) (fun T886 X886 e886 => ?_)
    refine ownBy (A := T886.setTop (fr_add2 m b p1 q1 307 (.val (.int (1 : Int32))) (.val (.int (2 : Int32))) [(.ref b), (.int (1 : Int32)), (.ref hh)])) (fun t kt => ?_) ?_
    ·refine XS.iload X886.here hx rfl (hb hby d7_304) rfl ?_
     refine XS.aloadN X886.here hx rfl (hb hby d7_306) rfl rfl ?_
     exact kt
    refine own_getF X886 hx hZ hown (host := "") (Or.inl (Wd39 hw)) Via.refl e886 f887 (hb hby d7_307) (fun T888 X888 e888 => ?_)
    refine ownBy (A := T888.setTop (fr_add2 m b p1 q1 315 (.val (.int (1 : Int32))) (.val (.int (2 : Int32))) [(.ref b), (.int (2 : Int32)), (.ref hh), (.int (1 : Int32)), (.ref hh)])) (fun t kt => ?_) ?_
    ·refine XS.iload X888.here hx rfl (hb hby d7_310) rfl ?_
     refine XS.iconst X888.here hx rfl (hb hby d7_312) ?_
     refine XS.iadd X888.here hx rfl (hb hby d7_313) rfl ?_
     show Steps p.tables e below (T888.setTop (fr_add2 m b p1 q1 314 (.val (.int (1 : Int32))) (.val (.int (2 : Int32))) [(.int (2 : Int32)), (.ref hh), (.int (1 : Int32)), (.ref hh)])) t
     refine XS.aloadN X888.here hx rfl (hb hby d7_314) rfl rfl ?_
     exact kt
    have f890 := (f875.keep K884 (ninS ne651 nin0))
    refine own_getF X888 hx hZ hown (host := "") (Or.inl (Wd64 hw)) Via.refl e888 f890 (hb hby d7_315) (fun T889 X889 e889 => ?_)
    refine ownBy (A := T889.setTop (fr_add2 m b p1 q1 321 (.val (.int (1 : Int32))) (.val (.int (2 : Int32))) [(.int (1 : Int32)), (.int (2 : Int32)), (.ref hh), (.int (1 : Int32)), (.ref hh)])) (fun t kt => ?_) ?_
    ·refine XS.iload X889.here hx rfl (hb hby d7_318) rfl ?_
     refine XS.isub X889.here hx rfl (hb hby d7_320) rfl ?_
     exact kt
    have f892 := (((((Ah.ext E840).other W848 (Ne.symm ne652)).other W860 ne843).other W870 ne843).keep K884 (ninS (Ne.symm ne654) nin0))
    obtain ⟨T891, h891, L891, X891, e891, Nq891, K891, A891, st891⟩ := cpA X889 hx hZ hown (Wd68 hw) (Wd71 hw) (Wd69 hw) (Wd70 hw) e889 f892 f892 (us := [.null]) (Or.inr ⟨rfl, rfl, ⟨Or.inl rfl, trivial⟩⟩) (sp := (1 : Int32)) (dp := (2 : Int32)) (nn := (1 : Int32)) (by decide) (by decide) (by decide) (by decide) (by decide) rfl (oLe rfl) Nq884 gh (g := (fr_add2 m b p1 q1 321 (.val (.int (1 : Int32))) (.val (.int (2 : Int32))) [(.int (1 : Int32)), (.int (2 : Int32)), (.ref hh), (.int (1 : Int32)), (.ref hh)])) rfl (by rw [hml]; rfl) rfl (hb hby d7_321) (by decide) (W := 0) (by show 2 * 0 + _ ≤ _; exact Nat.le_of_eq rfl) (by decide)
    have V893 : Arv Z h891 hh kh (.object "java/math/BigDecimal") (8 : Int32) [.null, .null, .null, .null, .null, .null, .null, .null] .null := A891
    refine ownBy st891 ?_
    clear st891
    show ownG p.tables e below _ (T891.setTop (fr_add2 m b p1 q1 324 (.val (.int (1 : Int32))) (.val (.int (2 : Int32))) []))
    refine ownBy (A := T891.setTop (fr_add2 m b p1 q1 325 (.val (.int (1 : Int32))) (.val (.int (2 : Int32))) [(.ref b)])) (fun t kt => ?_) ?_
    ·refine XS.aloadN X891.here hx rfl (hb hby d7_324) rfl rfl ?_
     exact kt
    have f895 := ((f878.keep K884 (ninS ne651 nin0)).keep K891 (ninS ne652 nin0))
    refine own_getF X891 hx hZ hown (host := "") (Or.inl (Wd35 hw)) Via.refl e891 f895 (hb hby d7_325) (fun T894 X894 e894 => ?_)
    refine ownBy (A := T894.setTop (fr_add2 m b p1 q1 331 (.val (.int (1 : Int32))) (.val (.int (2 : Int32))) [(.int p1), (.int (1 : Int32)), (.ref y)])) (fun t kt => ?_) ?_
    ·refine XS.iload X894.here hx rfl (hb hby d7_328) rfl ?_
     refine XS.iloadN X894.here hx rfl (hb hby d7_330) rfl ?_
     exact kt
    have f896 := (V885.keep K891 (ninS ne654 nin0))
    obtain ⟨cl897, Ar897, q897, S897, N897, H897, G897⟩ := id f896
    have hin897 : ¬ ((1 : Int32) < 0 ∨ cl897.slots.size ≤ ((1 : Int32)).toNatClampNeg) := inb_of S897 ⟨by decide, by decide⟩
    obtain ⟨T897, h897, X897, e897, W897, st897⟩ := stI X894 hx hZ e894 Ar897 (j := (1 : Int32)) hin897 (g := (fr_add2 m b p1 q1 331 (.val (.int (1 : Int32))) (.val (.int (2 : Int32))) [(.int p1), (.int (1 : Int32)), (.ref y)])) rfl rfl (hb hby d7_331)
    have V898 : Arv Z h897 y ky .int (8 : Int32) [(.int z0), (.int p1), (.int z1), (.int (0 : Int32)), (.int (0 : Int32)), (.int (0 : Int32)), (.int (0 : Int32)), (.int (0 : Int32))] (.int (0 : Int32)) := Arv.set Ar897 q897 S897 N897 H897 G897 rfl W897 1 rfl (oLe rfl)
    clear hin897 G897 H897 N897 S897 q897 Ar897 cl897 f896
    have N899 := Fr.snoc X897 Nq891 gy
    obtain ⟨Lh900, Xh900, Nh900⟩ := oHd 1 8 X897 N899 rfl rfl
    refine ownBy st897 ?_
    clear st897
    show ownG p.tables e below _ (T897.setTop (fr_add2 m b p1 q1 332 (.val (.int (1 : Int32))) (.val (.int (2 : Int32))) []))
    refine ownBy (A := T897.setTop (fr_add2 m b p1 q1 333 (.val (.int (1 : Int32))) (.val (.int (2 : Int32))) [(.ref b)])) (fun t kt => ?_) ?_
    ·refine XS.aloadN Xh900.here hx rfl (hb hby d7_332) rfl rfl ?_
     exact kt
    have f902 := ((f887.keep K891 (ninS ne652 nin0)).other W897 (Or.inl ne651))
    refine own_getF Xh900 hx hZ hown (host := "") (Or.inl (Wd39 hw)) Via.refl e897 f902 (hb hby d7_333) (fun T901 X901 e901 => ?_)
    refine ownBy (A := T901.setTop (fr_add2 m b p1 q1 339 (.val (.int (1 : Int32))) (.val (.int (2 : Int32))) [.null, (.int (1 : Int32)), (.ref hh)])) (fun t kt => ?_) ?_
    ·refine XS.iload X901.here hx rfl (hb hby d7_336) rfl ?_
     refine XS.aloadN X901.here hx rfl (hb hby d7_338) rfl rfl ?_
     exact kt
    have f903 := (V893.other W897 (Ne.symm ne654))
    obtain ⟨cl904, Ar904, q904, S904, N904, H904, G904⟩ := id f903
    have hin904 : ¬ ((1 : Int32) < 0 ∨ cl904.slots.size ≤ ((1 : Int32)).toNatClampNeg) := inb_of S904 ⟨by decide, by decide⟩
    obtain ⟨T904, h904, X904, e904, W904, st904⟩ := stR X901 hx hZ e901 Ar904 (j := (1 : Int32)) hin904 rfl (Or.inl rfl) (g := (fr_add2 m b p1 q1 339 (.val (.int (1 : Int32))) (.val (.int (2 : Int32))) [.null, (.int (1 : Int32)), (.ref hh)])) rfl rfl (hb hby d7_339)
    have V905 : Arv Z h904 hh kh (.object "java/math/BigDecimal") (8 : Int32) [.null, .null, .null, .null, .null, .null, .null, .null] .null := Arv.set Ar904 q904 S904 N904 H904 G904 rfl W904 1 rfl (oLe rfl)
    have N906 := Fr.snoc X904 Nh900 gh
    obtain ⟨Lh907, Xh907, Nh907⟩ := oHd 1 8 X904 N906 rfl rfl
    refine ownBy st904 ?_
    clear st904
    show ownG p.tables e below _ (T904.setTop (fr_add2 m b p1 q1 340 (.val (.int (1 : Int32))) (.val (.int (2 : Int32))) []))
    refine ownBy (A := T904.setTop (fr_add2 m b p1 q1 341 (.val (.int (1 : Int32))) (.val (.int (2 : Int32))) [(.ref b)])) (fun t kt => ?_) ?_
    ·refine XS.aloadN Xh907.here hx rfl (hb hby d7_340) rfl rfl ?_
     exact kt
    have f909 := (((((f867.other W870 (Or.inl ne841)).keep K884 (ninS ne651 nin0)).keep K891 (ninS ne652 nin0)).other W897 (Or.inl ne651)).other W904 (Or.inl ne652))
    refine own_getF Xh907 hx hZ hown (host := "") (Or.inl (Wd72 hw)) Via.refl e904 f909 (hb hby d7_341) (fun T908 X908 e908 => ?_)
    refine ownBy (A := T908.setTop (fr_add2 m b p1 q1 348 (.val (.int (1 : Int32))) (.val (.int (2 : Int32))) [(.ref b)])) (fun t kt => ?_) ?_
    ·refine XS.ifnullNo X908.here hx rfl (hb hby d7_344) rfl ?_
     refine XS.aloadN X908.here hx rfl (hb hby d7_347) rfl rfl ?_
     exact kt
    refine own_getF X908 hx hZ hown (host := "") (Or.inl (Wd72 hw)) Via.refl e908 f909 (hb hby d7_348) (fun T910 X910 e910 => ?_)
    refine ownBy (A := T910.setTop (fr_add2 m b p1 q1 354 (.val (.int (1 : Int32))) (.val (.int (2 : Int32))) [(.ref b), (.int (1 : Int32)), (.ref b840)])) (fun t kt => ?_) ?_
    ·refine XS.iload X910.here hx rfl (hb hby d7_351) rfl ?_
     refine XS.aloadN X910.here hx rfl (hb hby d7_353) rfl rfl ?_
     exact kt
    refine own_getF X910 hx hZ hown (host := "") (Or.inl (Wd72 hw)) Via.refl e910 f909 (hb hby d7_354) (fun T911 X911 e911 => ?_)
    refine ownBy (A := T911.setTop (fr_add2 m b p1 q1 362 (.val (.int (1 : Int32))) (.val (.int (2 : Int32))) [(.ref b), (.int (2 : Int32)), (.ref b840), (.int (1 : Int32)), (.ref b840)])) (fun t kt => ?_) ?_
    ·refine XS.iload X911.here hx rfl (hb hby d7_357) rfl ?_
     refine XS.iconst X911.here hx rfl (hb hby d7_359) ?_
     refine XS.iadd X911.here hx rfl (hb hby d7_360) rfl ?_
     show Steps p.tables e below (T911.setTop (fr_add2 m b p1 q1 361 (.val (.int (1 : Int32))) (.val (.int (2 : Int32))) [(.int (2 : Int32)), (.ref b840), (.int (1 : Int32)), (.ref b840)])) t
     refine XS.aloadN X911.here hx rfl (hb hby d7_361) rfl rfl ?_
     exact kt
    have f913 := (((f890.keep K891 (ninS ne652 nin0)).other W897 (Or.inl ne651)).other W904 (Or.inl ne652))
    refine own_getF X911 hx hZ hown (host := "") (Or.inl (Wd64 hw)) Via.refl e911 f913 (hb hby d7_362) (fun T912 X912 e912 => ?_)
    refine ownBy (A := T912.setTop (fr_add2 m b p1 q1 368 (.val (.int (1 : Int32))) (.val (.int (2 : Int32))) [(.int (1 : Int32)), (.int (2 : Int32)), (.ref b840), (.int (1 : Int32)), (.ref b840)])) (fun t kt => ?_) ?_
    ·refine XS.iload X912.here hx rfl (hb hby d7_365) rfl ?_
     refine XS.isub X912.here hx rfl (hb hby d7_367) rfl ?_
     exact kt
    have f915 := ((((V871.keep K884 (ninS (Ne.symm ne842) nin0)).keep K891 (ninS (Ne.symm ne843) nin0)).other W897 (Ne.symm ne842)).other W904 (Ne.symm ne843))
    obtain ⟨T914, h914, L914, X914, e914, Nq914, K914, A914, st914⟩ := cpA X912 hx hZ hown (Wd68 hw) (Wd71 hw) (Wd69 hw) (Wd70 hw) e912 f915 f915 (us := [(.long (f1 + (1 : Int64)))]) (Or.inl ⟨rfl, rfl⟩) (sp := (1 : Int32)) (dp := (2 : Int32)) (nn := (1 : Int32)) (by decide) (by decide) (by decide) (by decide) (by decide) rfl (oLe rfl) Nh907 g845 (g := (fr_add2 m b p1 q1 368 (.val (.int (1 : Int32))) (.val (.int (2 : Int32))) [(.int (1 : Int32)), (.int (2 : Int32)), (.ref b840), (.int (1 : Int32)), (.ref b840)])) rfl (by rw [hml]; rfl) rfl (hb hby d7_368) (by decide) (W := 0) (by show 2 * 0 + _ ≤ _; exact Nat.le_of_eq rfl) (by decide)
    have V916 : Arv Z h914 b840 k840 .long (8 : Int32) [(.long (f1 + (0 : Int64))), (.long (f1 + (1 : Int64))), (.long (f1 + (1 : Int64))), (.long (0 : Int64)), (.long (0 : Int64)), (.long (0 : Int64)), (.long (0 : Int64)), (.long (0 : Int64))] (.long (0 : Int64)) := A914
    refine ownBy st914 ?_
    clear st914
    show ownG p.tables e below _ (T914.setTop (fr_add2 m b p1 q1 371 (.val (.int (1 : Int32))) (.val (.int (2 : Int32))) []))
    refine ownBy (A := T914.setTop (fr_add2 m b p1 q1 372 (.val (.int (1 : Int32))) (.val (.int (2 : Int32))) [(.ref b)])) (fun t kt => ?_) ?_
    ·refine XS.aloadN X914.here hx rfl (hb hby d7_371) rfl rfl ?_
     exact kt
    have f918 := (f909.keep K914 (ninS ne841 nin0))
    refine own_getF X914 hx hZ hown (host := "") (Or.inl (Wd72 hw)) Via.refl e914 f918 (hb hby d7_372) (fun T917 X917 e917 => ?_)
    refine ownBy (A := T917.setTop (fr_add2 m b p1 q1 379 (.val (.int (1 : Int32))) (.val (.int (2 : Int32))) [(.long q1), (.int (1 : Int32)), (.ref b840)])) (fun t kt => ?_) ?_
    ·refine XS.iload X917.here hx rfl (hb hby d7_375) rfl ?_
     refine XS.lload X917.here hx rfl (hb hby d7_377) rfl ?_
     exact kt
    obtain ⟨cl919, Ar919, q919, S919, N919, H919, G919⟩ := id V916
    have hin919 : ¬ ((1 : Int32) < 0 ∨ cl919.slots.size ≤ ((1 : Int32)).toNatClampNeg) := inb_of S919 ⟨by decide, by decide⟩
    obtain ⟨T919, h919, X919, e919, W919, st919⟩ := stJ X917 hx hZ e917 Ar919 (j := (1 : Int32)) hin919 (g := (fr_add2 m b p1 q1 379 (.val (.int (1 : Int32))) (.val (.int (2 : Int32))) [(.long q1), (.int (1 : Int32)), (.ref b840)])) rfl rfl (hb hby d7_379)
    have V920 : Arv Z h919 b840 k840 .long (8 : Int32) [(.long (f1 + (0 : Int64))), (.long q1), (.long (f1 + (1 : Int64))), (.long (0 : Int64)), (.long (0 : Int64)), (.long (0 : Int64)), (.long (0 : Int64)), (.long (0 : Int64))] (.long (0 : Int64)) := Arv.set Ar919 q919 S919 N919 H919 G919 rfl W919 1 rfl (oLe rfl)
    clear hin919 G919 H919 N919 S919 q919 Ar919 cl919 V916
    have N921 := Fr.snoc X919 Nq914 g845
    obtain ⟨Lh922, Xh922, Nh922⟩ := oHd 1 8 X919 N921 rfl rfl
    refine ownBy st919 ?_
    clear st919
    show ownG p.tables e below _ (T919.setTop (fr_add2 m b p1 q1 380 (.val (.int (1 : Int32))) (.val (.int (2 : Int32))) []))
    refine ownBy (A := T919.setTop (fr_add2 m b p1 q1 386 (.val (.int (1 : Int32))) (.val (.int (0 : Int32))) [(.ref b), (.int (0 : Int32))])) (fun t kt => ?_) ?_
    ·refine XS.iconst Xh922.here hx rfl (hb hby d7_380) ?_
     refine XS.istore Xh922.here hx rfl (hb hby d7_381) rfl (l' := #[.val (.ref b), .val (.int p1), .val .null, .val .null, .val (.long q1), .second, .val (.int (1 : Int32)), .val (.int (0 : Int32)), .unset]) rfl ?_
     refine XS.iload Xh922.here hx rfl (hb hby d7_383) rfl ?_
     show Steps p.tables e below (T919.setTop (fr_add2 m b p1 q1 385 (.val (.int (1 : Int32))) (.val (.int (0 : Int32))) [(.int (0 : Int32))])) t
     refine XS.aloadN Xh922.here hx rfl (hb hby d7_385) rfl rfl ?_
     exact kt
    have f924 := ((((((((((Fn.ext E840).other W848 (Or.inr (slot_ne (Or.inr (Wd58 hw)) (Or.inl (Wd73 hw)) (by decide) (t := (.array (.array .long))) (t' := (.array .long)) (by decide) (by decide)))).other W860 (Or.inl ne841)).other W870 (Or.inl ne841)).keep K884 (ninS ne651 nin0)).keep K891 (ninS ne652 nin0)).other W897 (Or.inl ne651)).other W904 (Or.inl ne652)).keep K914 (ninS ne841 nin0)).other W919 (Or.inl ne841))
    refine own_getF Xh922 hx hZ hown (host := "") (Or.inl (Wd57 hw)) Via.refl e919 f924 (hb hby d7_386) (fun T923 X923 e923 => ?_)
    have f925 := ((((((((((An.ext E840).other W848 (Ne.symm ne653)).other W860 ne844).other W870 ne844).keep K884 (ninS (Ne.symm ne655) nin0)).keep K891 (ninS (Ne.symm ne656) nin0)).other W897 (Ne.symm ne655)).other W904 (Ne.symm ne656)).keep K914 (ninS ne844 nin0)).other W919 ne844)
    obtain ⟨cl926, Ar926, -, S926, N926, -, -⟩ := id f925
    have st926 := X923.arraylength hx (by rw [e923]; exact Ar926.1) (State.isArrayOf_alike hZ.alike Ar926.2.1) (g := (fr_add2 m b p1 q1 389 (.val (.int (1 : Int32))) (.val (.int (0 : Int32))) [(.ref nn), (.int (0 : Int32))])) rfl rfl (hb hby d7_389)
    rw [len_of S926 N926] at st926
    refine ownBy st926 ?_
    show ownG p.tables e below _ (T923.setTop (fr_add2 m b p1 q1 390 (.val (.int (1 : Int32))) (.val (.int (0 : Int32))) [(.int (0 : Int32)), (.int (0 : Int32))]))
    refine ownBy (A := T923.setTop (fr_add2 m b p1 q1 463 (.val (.int (1 : Int32))) (.val (.int (0 : Int32))) [(.ref b), (.ref b)])) (fun t kt => ?_) ?_
    ·refine XS.icmpYes X923.here hx rfl (pc0 := 390) (pc' := 461) rfl (hb hby d7_390) rfl (flt ((by decide) : ¬ ((0 : Int32) < (0 : Int32)))).2.1 (by decide) (by decide) ?_
     refine XS.aloadN X923.here hx rfl (hb hby d7_461) rfl rfl ?_
     refine XS.dup X923.here hx rfl (hb hby d7_462) rfl rfl ?_
     exact kt
    have f928 := ((f913.keep K914 (ninS ne841 nin0)).other W919 (Or.inl ne841))
    refine own_getF X923 hx hZ hown (host := "") (Or.inl (Wd64 hw)) Via.refl e923 f928 (hb hby d7_463) (fun T927 X927 e927 => ?_)
    refine ownBy (A := T927.setTop (fr_add2 m b p1 q1 468 (.val (.int (1 : Int32))) (.val (.int (0 : Int32))) [(.int (3 : Int32)), (.ref b)])) (fun t kt => ?_) ?_
    ·refine XS.iconst X927.here hx rfl (hb hby d7_466) ?_
     refine XS.iadd X927.here hx rfl (hb hby d7_467) rfl ?_
     exact kt
    have f930 := (((((((((f850.wr W848).wr W860).wr W870).keep K884).keep K891).wr W897).wr W904).keep K914).wr W919)
    obtain ⟨T929, h929, X929, e929, W929, st929⟩ := putF X927 hx hZ hown (host := "") (Or.inl (Wd64 hw)) Via.refl e927 f928 f930 (Or.inl (Wd65 hw)) (Wd3 hw) (ty := .int) (by decide) rfl rfl (g := (fr_add2 m b p1 q1 468 (.val (.int (1 : Int32))) (.val (.int (0 : Int32))) [(.int (3 : Int32)), (.ref b)])) rfl rfl (hb hby d7_468)
    have F931 := f928.same W929
    have N932 := Fr.snoc X929 Nh922 gb
    obtain ⟨Lh933, Xh933, Nh933⟩ := oHd 1 8 X929 N932 rfl rfl
    refine ownBy st929 ?_
    clear st929
    show ownG p.tables e below _ (T929.setTop (fr_add2 m b p1 q1 471 (.val (.int (1 : Int32))) (.val (.int (0 : Int32))) []))
    have f934 := (V920.other W929 (Ne.symm ne841))
    have f936 := (f930.wr W929)
    have f937 := (((((f895.other W897 (Or.inl ne651)).other W904 (Or.inl ne652)).keep K914 (ninS ne841 nin0)).other W919 (Or.inl ne841)).other W929 (Or.inr (slot_ne (Or.inl (Wd36 hw)) (Or.inl (Wd65 hw)) (by decide) (t := (.array .int)) (t' := .int) (by decide) (by decide))))
    have f938 := ((((f902.other W904 (Or.inl ne652)).keep K914 (ninS ne841 nin0)).other W919 (Or.inl ne841)).other W929 (Or.inr (slot_ne (Or.inl (Wd40 hw)) (Or.inl (Wd65 hw)) (by decide) (t := (.array (.object "java/math/BigDecimal"))) (t' := .int) (by decide) (by decide))))
    have f939 := (f924.other W929 (Or.inr (slot_ne (Or.inr (Wd58 hw)) (Or.inl (Wd65 hw)) (by decide) (t := (.array (.array .long))) (t' := .int) (by decide) (by decide))))
    have f940 := ((((((((f869.other W870 (Or.inl ne841)).keep K884 (ninS ne651 nin0)).keep K891 (ninS ne652 nin0)).other W897 (Or.inl ne651)).other W904 (Or.inl ne652)).keep K914 (ninS ne841 nin0)).other W919 (Or.inl ne841)).other W929 (Or.inr (slot_ne (Or.inl (Wd67 hw)) (Or.inl (Wd65 hw)) (by decide) (t := .long) (t' := .int) (by decide) (by decide))))
    have f941 := ((f918.other W919 (Or.inl ne841)).other W929 (Or.inr (slot_ne (Or.inl (Wd73 hw)) (Or.inl (Wd65 hw)) (by decide) (t := (.array .long)) (t' := .int) (by decide) (by decide))))
    have f942 := ((((V898.other W904 ne654).keep K914 (ninS ne842 nin0)).other W919 ne842).other W929 (Ne.symm ne651))
    have f943 := (((V905.keep K914 (ninS ne843 nin0)).other W919 ne843).other W929 (Ne.symm ne652))
    have f944 := (f925.other W929 (Ne.symm ne653))
    have f945 := (Nat.le_trans (Nat.le_trans (Nat.le_trans (Nat.le_trans (Nat.le_trans (Nat.le_trans (Nat.le_trans (Nat.le_trans (Nat.le_trans (Nat.le_trans (Nat.le_trans (Nat.le_refl h0.size) E840.1) (Keep.of_wr W848).1) (Keep.of_wr W860).1) (Keep.of_wr W870).1) K884.1) K891.1) (Keep.of_wr W897).1) (Keep.of_wr W904).1) K914.1) (Keep.of_wr W919).1) (Keep.of_wr W929).1)
    refine ownRet Xh933 Bd.notSynchronized (v := none) (fun _ => rfl) ?_ (oLe rfl) (oLe rfl) (fun fs hr => Xh933.returnOut hx Bd.returns (hb hby d7_471) hr)
    show (Q_add2 Z b y hh nn ky kh kn z0 z1 m0 m1 f1 lv p1 q1 h0 n0) (none) T929.heap _
    rw [e929]
    have V935 := f934
    rw [← hm0, ← hm1] at V935
    exact ⟨rfl, Nh933, f945, z0, p1, z1, m0, q1, m1, f1, (.ref b840), hb832_1_0, hb832_1_2, Or.inr (Or.inl ⟨rfl, rfl, rfl, rfl, rfl, rfl⟩), f936, f937, f938, f939, F931, f940, f941, f942, f943, f944, Or.inr ⟨b840, k840, rfl, g845, V935⟩⟩
   ·skip
    exfalso
    simp only [Int32.lt_iff_toInt_lt, ← Int32.toInt_inj] at hb832_2_0 hb832_2_1 hb832_2_2 hne0 hne1
    omega
   ·skip
    have N946 := Fr.app N0 Nq832
    obtain ⟨Lh947, Xh947, Nh947⟩ := oHd 0 0 X832 N946 rfl rfl
    refine ownBy st832 ?_
    clear st832
    show ownG p.tables e below _ (T832.setTop (fr_add2 m b p1 q1 41 (.val (.int (2 : Int32))) .unset [(.int (-1 : Int32))]))
    refine ownBy (A := T832.setTop (fr_add2 m b p1 q1 70 (.val (.int (0 : Int32))) .unset [(.ref b)])) (fun t kt => ?_) ?_
    ·refine XS.istore Xh947.here hx rfl (hb hby d7_41) rfl (l' := #[.val (.ref b), .val (.int p1), .val .null, .val .null, .val (.long q1), .second, .val (.int (-1 : Int32)), .unset, .unset]) rfl ?_
     refine XS.iload Xh947.here hx rfl (hb hby d7_43) rfl ?_
     refine XS.ifYes Xh947.here hx rfl (pc0 := 45) (pc' := 62) rfl (hb hby d7_45) rfl ((if0 _ _).trans (tlt ((by decide) : (-1 : Int32) < (0 : Int32))).1) (by decide) (by decide) ?_
     show Steps p.tables e below (T832.setTop (fr_add2 m b p1 q1 62 (.val (.int (-1 : Int32))) .unset [])) t
     refine XS.iload Xh947.here hx rfl (hb hby d7_62) rfl ?_
     refine XS.ineg Xh947.here hx rfl (hb hby d7_64) rfl ?_
     refine XS.iconst Xh947.here hx rfl (hb hby d7_65) ?_
     show Steps p.tables e below (T832.setTop (fr_add2 m b p1 q1 66 (.val (.int (-1 : Int32))) .unset [(.int (1 : Int32)), (.int (1 : Int32))])) t
     refine XS.isub Xh947.here hx rfl (hb hby d7_66) rfl ?_
     refine XS.istore Xh947.here hx rfl (hb hby d7_67) rfl (l' := #[.val (.ref b), .val (.int p1), .val .null, .val .null, .val (.long q1), .second, .val (.int (0 : Int32)), .unset, .unset]) rfl ?_
     refine XS.aloadN Xh947.here hx rfl (hb hby d7_69) rfl rfl ?_
     exact kt
    refine own_getF Xh947 hx hZ hown (host := "") (Or.inl (Wd64 hw)) Via.refl Eq832 Fs (hb hby d7_70) (fun T948 X948 e948 => ?_)
    refine ownBy (A := T948.setTop (fr_add2 m b p1 q1 86 (.val (.int (0 : Int32))) .unset [(.ref b)])) (fun t kt => ?_) ?_
    ·refine XS.ifYes X948.here hx rfl (pc0 := 73) (pc' := 85) rfl (hb hby d7_73) rfl ((if0 _ _).trans (feq ((by decide) : ¬ ((2 : Int32) = (0 : Int32)))).2) (by decide) (by decide) ?_
     refine XS.aloadN X948.here hx rfl (hb hby d7_85) rfl rfl ?_
     exact kt
    refine own_getF X948 hx hZ hown (host := "") (Or.inl (Wd72 hw)) Via.refl e948 Fl (hb hby d7_86) (fun T949 X949 e949 => ?_)
    refine ownBy (A := T949.setTop (fr_add2 m b p1 q1 95 (.val (.int (0 : Int32))) .unset [(.ref b), (.int (0 : Int32))])) (fun t kt => ?_) ?_
    ·refine XS.ifnonnullNo X949.here hx rfl (hb hby d7_89) rfl ?_
     refine XS.iload X949.here hx rfl (hb hby d7_92) rfl ?_
     refine XS.aloadN X949.here hx rfl (hb hby d7_94) rfl rfl ?_
     exact kt
    refine own_getF X949 hx hZ hown (host := "") (Or.inl (Wd64 hw)) Via.refl e949 Fs (hb hby d7_95) (fun T950 X950 e950 => ?_)
    refine ownBy (A := T950.setTop (fr_add2 m b p1 q1 119 (.val (.int (0 : Int32))) .unset [(.ref b), (.ref b)])) (fun t kt => ?_) ?_
    ·refine XS.icmpYes X950.here hx rfl (pc0 := 98) (pc' := 117) rfl (hb hby d7_98) rfl (feq ((by decide) : ¬ ((0 : Int32) = (2 : Int32)))).2 (by decide) (by decide) ?_
     refine XS.aloadN X950.here hx rfl (hb hby d7_117) rfl rfl ?_
     refine XS.aloadN X950.here hx rfl (hb hby d7_118) rfl rfl ?_
     exact kt
    refine own_getF X950 hx hZ hown (host := "") (Or.inl (Wd35 hw)) Via.refl e950 Fy (hb hby d7_119) (fun T951 X951 e951 => ?_)
    obtain ⟨cl952, Ar952, -, S952, N952, -, -⟩ := id Ay
    have st952 := X951.arraylength hx (by rw [e951]; exact Ar952.1) (State.isArrayOf_alike hZ.alike Ar952.2.1) (g := (fr_add2 m b p1 q1 122 (.val (.int (0 : Int32))) .unset [(.ref y), (.ref b)])) rfl rfl (hb hby d7_122)
    rw [len_of S952 N952] at st952
    refine ownBy st952 ?_
    show ownG p.tables e below _ (T951.setTop (fr_add2 m b p1 q1 123 (.val (.int (0 : Int32))) .unset [(.int (8 : Int32)), (.ref b)]))
    obtain ⟨T953, h953, k953, X953, e953, E953, A953, st953⟩ := newP X951 hx hZ (aty := .long) (Wd56 hw) e951 (g := (fr_add2 m b p1 q1 123 (.val (.int (0 : Int32))) .unset [(.int (8 : Int32)), (.ref b)])) rfl (hb hby d7_123) rfl (by decide : ¬ ((8 : Int32) < (0 : Int32))) (cap := 8) (by decide) (by decide) (by decide) (by decide)
    obtain ⟨b953, g953⟩ : ∃ z, z = h0.size := ⟨_, rfl⟩
    rw [← g953] at A953 st953
    have ne954 : b ≠ b953 := Nat.ne_of_lt (Nat.lt_of_lt_of_le E1.lt (Nat.le_of_eq g953.symm))
    have ne955 : y ≠ b953 := Nat.ne_of_lt (Nat.lt_of_lt_of_le Ay.lt (Nat.le_of_eq g953.symm))
    have ne956 : hh ≠ b953 := Nat.ne_of_lt (Nat.lt_of_lt_of_le Ah.lt (Nat.le_of_eq g953.symm))
    have ne957 : nn ≠ b953 := Nat.ne_of_lt (Nat.lt_of_lt_of_le An.lt (Nat.le_of_eq g953.symm))
    have g958 : n0 ≤ b953 := Nat.le_trans Z0 (Nat.le_of_eq g953.symm)
    have z959 : h0.size ≤ b953 := Nat.le_trans (Nat.le_refl h0.size) (Nat.le_of_eq g953.symm)
    have V960 : Arv Z h953 b953 k953 .long (8 : Int32) [(.long (0 : Int64)), (.long (0 : Int64)), (.long (0 : Int64)), (.long (0 : Int64)), (.long (0 : Int64)), (.long (0 : Int64)), (.long (0 : Int64)), (.long (0 : Int64))] (.long (0 : Int64)) := (Arv.new A953 (by decide)).pad (pad_rep [] (.long (0 : Int64)) 8)
    refine ownBy st953 ?_
    clear st953
    show ownG p.tables e below _ (T953.setTop (fr_add2 m b p1 q1 125 (.val (.int (0 : Int32))) .unset [(.ref b953), (.ref b)]))
    have f962 := (Fl.ext E953)
    have f963 := (E1.ext E953)
    obtain ⟨T961, h961, X961, e961, W961, st961⟩ := putF X953 hx hZ hown (host := "") (Or.inl (Wd72 hw)) Via.refl e953 f962 f963 (Or.inl (Wd73 hw)) (Wd3 hw) (ty := (.array .long)) (by decide) rfl rfl (g := (fr_add2 m b p1 q1 125 (.val (.int (0 : Int32))) .unset [(.ref b953), (.ref b)])) rfl rfl (hb hby d7_125)
    have F964 := f962.same W961
    have N965 := Fr.snoc X961 Nh947 gb
    obtain ⟨Lh966, Xh966, Nh966⟩ := oHd 1 8 X961 N965 rfl rfl
    refine ownBy st961 ?_
    clear st961
    show ownG p.tables e below _ (T961.setTop (fr_add2 m b p1 q1 128 (.val (.int (0 : Int32))) .unset []))
    refine ownBy (A := T961.setTop (fr_add2 m b p1 q1 134 (.val (.int (0 : Int32))) (.val (.int (0 : Int32))) [(.ref b), (.int (0 : Int32))])) (fun t kt => ?_) ?_
    ·refine XS.iconst Xh966.here hx rfl (hb hby d7_128) ?_
     refine XS.istore Xh966.here hx rfl (hb hby d7_129) rfl (l' := #[.val (.ref b), .val (.int p1), .val .null, .val .null, .val (.long q1), .second, .val (.int (0 : Int32)), .val (.int (0 : Int32)), .unset]) rfl ?_
     refine XS.iload Xh966.here hx rfl (hb hby d7_131) rfl ?_
     show Steps p.tables e below (T961.setTop (fr_add2 m b p1 q1 133 (.val (.int (0 : Int32))) (.val (.int (0 : Int32))) [(.int (0 : Int32))])) t
     refine XS.aloadN Xh966.here hx rfl (hb hby d7_133) rfl rfl ?_
     exact kt
    have f968 := ((Fs.ext E953).other W961 (Or.inr (slot_ne (Or.inl (Wd65 hw)) (Or.inl (Wd73 hw)) (by decide) (t := .int) (t' := (.array .long)) (by decide) (by decide))))
    refine own_getF Xh966 hx hZ hown (host := "") (Or.inl (Wd64 hw)) Via.refl e961 f968 (hb hby d7_134) (fun T967 X967 e967 => ?_)
    refine ownBy (A := T967.setTop (fr_add2 m b p1 q1 141 (.val (.int (0 : Int32))) (.val (.int (0 : Int32))) [(.ref b)])) (fun t kt => ?_) ?_
    ·refine XS.icmpNo X967.here hx rfl (hb hby d7_137) rfl (tlt ((by decide) : (0 : Int32) < (2 : Int32))).2.1 ?_
     refine XS.aloadN X967.here hx rfl (hb hby d7_140) rfl rfl ?_
     exact kt
    refine own_getF X967 hx hZ hown (host := "") (Or.inl (Wd72 hw)) Via.refl e967 F964 (hb hby d7_141) (fun T969 X969 e969 => ?_)
    refine ownBy (A := T969.setTop (fr_add2 m b p1 q1 147 (.val (.int (0 : Int32))) (.val (.int (0 : Int32))) [(.ref b), (.int (0 : Int32)), (.ref b953)])) (fun t kt => ?_) ?_
    ·refine XS.iload X969.here hx rfl (hb hby d7_144) rfl ?_
     refine XS.aloadN X969.here hx rfl (hb hby d7_146) rfl rfl ?_
     exact kt
    have f971 := ((Ff.ext E953).other W961 (Or.inr (slot_ne (Or.inl (Wd67 hw)) (Or.inl (Wd73 hw)) (by decide) (t := .long) (t' := (.array .long)) (by decide) (by decide))))
    refine own_getF X969 hx hZ hown (host := "") (Or.inl (Wd66 hw)) Via.refl e969 f971 (hb hby d7_147) (fun T970 X970 e970 => ?_)
    refine ownBy (A := T970.setTop (fr_add2 m b p1 q1 154 (.val (.int (0 : Int32))) (.val (.int (0 : Int32))) [(.long (f1 + (0 : Int64))), (.int (0 : Int32)), (.ref b953)])) (fun t kt => ?_) ?_
    ·refine XS.iload X970.here hx rfl (hb hby d7_150) rfl ?_
     refine XS.i2l X970.here hx rfl (hb hby d7_152) rfl ?_
     refine XS.ladd X970.here hx rfl (hb hby d7_153) rfl ?_
     exact kt
    have f972 := (V960.other W961 (Ne.symm ne954))
    obtain ⟨cl973, Ar973, q973, S973, N973, H973, G973⟩ := id f972
    have hin973 : ¬ ((0 : Int32) < 0 ∨ cl973.slots.size ≤ ((0 : Int32)).toNatClampNeg) := inb_of S973 ⟨by decide, by decide⟩
    obtain ⟨T973, h973, X973, e973, W973, st973⟩ := stJ X970 hx hZ e970 Ar973 (j := (0 : Int32)) hin973 (g := (fr_add2 m b p1 q1 154 (.val (.int (0 : Int32))) (.val (.int (0 : Int32))) [(.long (f1 + (0 : Int64))), (.int (0 : Int32)), (.ref b953)])) rfl rfl (hb hby d7_154)
    have V974 : Arv Z h973 b953 k953 .long (8 : Int32) [(.long (f1 + (0 : Int64))), (.long (0 : Int64)), (.long (0 : Int64)), (.long (0 : Int64)), (.long (0 : Int64)), (.long (0 : Int64)), (.long (0 : Int64)), (.long (0 : Int64))] (.long (0 : Int64)) := Arv.set Ar973 q973 S973 N973 H973 G973 rfl W973 0 rfl (oLe rfl)
    clear hin973 G973 H973 N973 S973 q973 Ar973 cl973 f972
    have N975 := Fr.snoc X973 Nh966 g958
    obtain ⟨Lh976, Xh976, Nh976⟩ := oHd 1 8 X973 N975 rfl rfl
    refine ownBy st973 ?_
    clear st973
    show ownG p.tables e below _ (T973.setTop (fr_add2 m b p1 q1 155 (.val (.int (0 : Int32))) (.val (.int (0 : Int32))) []))
    refine ownBy (A := T973.setTop (fr_add2 m b p1 q1 134 (.val (.int (0 : Int32))) (.val (.int (1 : Int32))) [(.ref b), (.int (1 : Int32))])) (fun t kt => ?_) ?_
    ·refine XS.iinc Xh976.here hx rfl (hb hby d7_155) rfl (l' := #[.val (.ref b), .val (.int p1), .val .null, .val .null, .val (.long q1), .second, .val (.int (0 : Int32)), .val (.int (1 : Int32)), .unset]) rfl ?_
     refine XS.goto Xh976.here hx rfl (pc0 := 158) (pc' := 131) rfl (hb hby d7_158) (by decide) (by decide) ?_
     refine XS.iload Xh976.here hx rfl (hb hby d7_131) rfl ?_
     show Steps p.tables e below (T973.setTop (fr_add2 m b p1 q1 133 (.val (.int (0 : Int32))) (.val (.int (1 : Int32))) [(.int (1 : Int32))])) t
     refine XS.aloadN Xh976.here hx rfl (hb hby d7_133) rfl rfl ?_
     exact kt
    have f978 := (f968.other W973 (Or.inl ne954))
    refine own_getF Xh976 hx hZ hown (host := "") (Or.inl (Wd64 hw)) Via.refl e973 f978 (hb hby d7_134) (fun T977 X977 e977 => ?_)
    refine ownBy (A := T977.setTop (fr_add2 m b p1 q1 141 (.val (.int (0 : Int32))) (.val (.int (1 : Int32))) [(.ref b)])) (fun t kt => ?_) ?_
    ·refine XS.icmpNo X977.here hx rfl (hb hby d7_137) rfl (tlt ((by decide) : (1 : Int32) < (2 : Int32))).2.1 ?_
     refine XS.aloadN X977.here hx rfl (hb hby d7_140) rfl rfl ?_
     exact kt
    have f980 := (F964.other W973 (Or.inl ne954))
    refine own_getF X977 hx hZ hown (host := "") (Or.inl (Wd72 hw)) Via.refl e977 f980 (hb hby d7_141) (fun T979 X979 e979 => ?_)
    refine ownBy (A := T979.setTop (fr_add2 m b p1 q1 147 (.val (.int (0 : Int32))) (.val (.int (1 : Int32))) [(.ref b), (.int (1 : Int32)), (.ref b953)])) (fun t kt => ?_) ?_
    ·refine XS.iload X979.here hx rfl (hb hby d7_144) rfl ?_
     refine XS.aloadN X979.here hx rfl (hb hby d7_146) rfl rfl ?_
     exact kt
    have f982 := (f971.other W973 (Or.inl ne954))
    refine own_getF X979 hx hZ hown (host := "") (Or.inl (Wd66 hw)) Via.refl e979 f982 (hb hby d7_147) (fun T981 X981 e981 => ?_)
    refine ownBy (A := T981.setTop (fr_add2 m b p1 q1 154 (.val (.int (0 : Int32))) (.val (.int (1 : Int32))) [(.long (f1 + (1 : Int64))), (.int (1 : Int32)), (.ref b953)])) (fun t kt => ?_) ?_
    ·refine XS.iload X981.here hx rfl (hb hby d7_150) rfl ?_
     refine XS.i2l X981.here hx rfl (hb hby d7_152) rfl ?_
     refine XS.ladd X981.here hx rfl (hb hby d7_153) rfl ?_
     exact kt
    obtain ⟨cl983, Ar983, q983, S983, N983, H983, G983⟩ := id V974
    have hin983 : ¬ ((1 : Int32) < 0 ∨ cl983.slots.size ≤ ((1 : Int32)).toNatClampNeg) := inb_of S983 ⟨by decide, by decide⟩
    obtain ⟨T983, h983, X983, e983, W983, st983⟩ := stJ X981 hx hZ e981 Ar983 (j := (1 : Int32)) hin983 (g := (fr_add2 m b p1 q1 154 (.val (.int (0 : Int32))) (.val (.int (1 : Int32))) [(.long (f1 + (1 : Int64))), (.int (1 : Int32)), (.ref b953)])) rfl rfl (hb hby d7_154)
    have V984 : Arv Z h983 b953 k953 .long (8 : Int32) [(.long (f1 + (0 : Int64))), (.long (f1 + (1 : Int64))), (.long (0 : Int64)), (.long (0 : Int64)), (.long (0 : Int64)), (.long (0 : Int64)), (.long (0 : Int64)), (.long (0 : Int64))] (.long (0 : Int64)) := Arv.set Ar983 q983 S983 N983 H983 G983 rfl W983 1 rfl (oLe rfl)
    clear hin983 G983 H983 N983 S983 q983 Ar983 cl983 V974
    have N985 := Fr.snoc X983 Nh976 g958
    obtain ⟨Lh986, Xh986, Nh986⟩ := oHd 1 8 X983 N985 rfl rfl
    refine ownBy st983 ?_
    clear st983
    show ownG p.tables e below _ (T983.setTop (fr_add2 m b p1 q1 155 (.val (.int (0 : Int32))) (.val (.int (1 : Int32))) []))
    refine ownBy (A := T983.setTop (fr_add2 m b p1 q1 134 (.val (.int (0 : Int32))) (.val (.int (2 : Int32))) [(.ref b), (.int (2 : Int32))])) (fun t kt => ?_) ?_
    ·refine XS.iinc Xh986.here hx rfl (hb hby d7_155) rfl (l' := #[.val (.ref b), .val (.int p1), .val .null, .val .null, .val (.long q1), .second, .val (.int (0 : Int32)), .val (.int (2 : Int32)), .unset]) rfl ?_
     refine XS.goto Xh986.here hx rfl (pc0 := 158) (pc' := 131) rfl (hb hby d7_158) (by decide) (by decide) ?_
     refine XS.iload Xh986.here hx rfl (hb hby d7_131) rfl ?_
     show Steps p.tables e below (T983.setTop (fr_add2 m b p1 q1 133 (.val (.int (0 : Int32))) (.val (.int (2 : Int32))) [(.int (2 : Int32))])) t
     refine XS.aloadN Xh986.here hx rfl (hb hby d7_133) rfl rfl ?_
     exact kt
    have f988 := (f978.other W983 (Or.inl ne954))
    refine own_getF Xh986 hx hZ hown (host := "") (Or.inl (Wd64 hw)) Via.refl e983 f988 (hb hby d7_134) (fun T987 X987 e987 => ?_)
    refine ownBy (A := T987.setTop (fr_add2 m b p1 q1 162 (.val (.int (0 : Int32))) (.val (.int (2 : Int32))) [(.ref b)])) (fun t kt => ?_) ?_
    ·refine XS.icmpYes X987.here hx rfl (pc0 := 137) (pc' := 161) rfl (hb hby d7_137) rfl (flt ((by decide) : ¬ ((2 : Int32) < (2 : Int32)))).2.1 (by decide) (by decide) ?_
     refine XS.aloadN X987.here hx rfl (hb hby d7_161) rfl rfl ?_
     exact kt
    refine own_getF X987 hx hZ hown (host := "") (Or.inl (Wd64 hw)) Via.refl e987 f988 (hb hby d7_162) (fun T989 X989 e989 => ?_)
    refine ownBy (A := T989.setTop (fr_add2 m b p1 q1 166 (.val (.int (0 : Int32))) (.val (.int (2 : Int32))) [(.ref b), (.int (2 : Int32))])) (fun t kt => ?_) ?_
    ·refine XS.aloadN X989.here hx rfl (hb hby d7_165) rfl rfl ?_
     exact kt
    have f991 := ((((Fy.ext E953).other W961 (Or.inr (slot_ne (Or.inl (Wd36 hw)) (Or.inl (Wd73 hw)) (by decide) (t := (.array .int)) (t' := (.array .long)) (by decide) (by decide)))).other W973 (Or.inl ne954)).other W983 (Or.inl ne954))
    refine own_getF X989 hx hZ hown (host := "") (Or.inl (Wd35 hw)) Via.refl e989 f991 (hb hby d7_166) (fun T990 X990 e990 => ?_)
    have f992 := ((((Ay.ext E953).other W961 (Ne.symm ne651)).other W973 ne955).other W983 ne955)
    obtain ⟨cl993, Ar993, -, S993, N993, -, -⟩ := id f992
    have st993 := X990.arraylength hx (by rw [e990]; exact Ar993.1) (State.isArrayOf_alike hZ.alike Ar993.2.1) (g := (fr_add2 m b p1 q1 169 (.val (.int (0 : Int32))) (.val (.int (2 : Int32))) [(.ref y), (.int (2 : Int32))])) rfl rfl (hb hby d7_169)
    rw [len_of S993 N993] at st993
    refine ownBy st993 ?_
    show ownG p.tables e below _ (T990.setTop (fr_add2 m b p1 q1 170 (.val (.int (0 : Int32))) (.val (.int (2 : Int32))) [(.int (8 : Int32)), (.int (2 : Int32))]))
    refine ownBy (A := T990.setTop (fr_add2 m b p1 q1 277 (.val (.int (0 : Int32))) (.val (.int (2 : Int32))) [(.ref b)])) (fun t kt => ?_) ?_
    ·refine XS.icmpYes X990.here hx rfl (pc0 := 170) (pc' := 276) rfl (hb hby d7_170) rfl (feq ((by decide) : ¬ ((2 : Int32) = (8 : Int32)))).2 (by decide) (by decide) ?_
     refine XS.aloadN X990.here hx rfl (hb hby d7_276) rfl rfl ?_
     exact kt
    refine own_getF X990 hx hZ hown (host := "") (Or.inl (Wd35 hw)) Via.refl e990 f991 (hb hby d7_277) (fun T994 X994 e994 => ?_)
    refine ownBy (A := T994.setTop (fr_add2 m b p1 q1 283 (.val (.int (0 : Int32))) (.val (.int (2 : Int32))) [(.ref b), (.int (0 : Int32)), (.ref y)])) (fun t kt => ?_) ?_
    ·refine XS.iload X994.here hx rfl (hb hby d7_280) rfl ?_
     refine XS.aloadN X994.here hx rfl (hb hby d7_282) rfl rfl ?_
     exact kt
    refine own_getF X994 hx hZ hown (host := "") (Or.inl (Wd35 hw)) Via.refl e994 f991 (hb hby d7_283) (fun T995 X995 e995 => ?_)
    refine ownBy (A := T995.setTop (fr_add2 m b p1 q1 291 (.val (.int (0 : Int32))) (.val (.int (2 : Int32))) [(.ref b), (.int (1 : Int32)), (.ref y), (.int (0 : Int32)), (.ref y)])) (fun t kt => ?_) ?_
    ·refine XS.iload X995.here hx rfl (hb hby d7_286) rfl ?_
     refine XS.iconst X995.here hx rfl (hb hby d7_288) ?_
     refine XS.iadd X995.here hx rfl (hb hby d7_289) rfl ?_
     show Steps p.tables e below (T995.setTop (fr_add2 m b p1 q1 290 (.val (.int (0 : Int32))) (.val (.int (2 : Int32))) [(.int (1 : Int32)), (.ref y), (.int (0 : Int32)), (.ref y)])) t
     refine XS.aloadN X995.here hx rfl (hb hby d7_290) rfl rfl ?_
     exact kt
    refine own_getF X995 hx hZ hown (host := "") (Or.inl (Wd64 hw)) Via.refl e995 f988 (hb hby d7_291) (fun T996 X996 e996 => ?_)
    refine ownBy (A := T996.setTop (fr_add2 m b p1 q1 297 (.val (.int (0 : Int32))) (.val (.int (2 : Int32))) [(.int (2 : Int32)), (.int (1 : Int32)), (.ref y), (.int (0 : Int32)), (.ref y)])) (fun t kt => ?_) ?_
    ·refine XS.iload X996.here hx rfl (hb hby d7_294) rfl ?_
     refine XS.isub X996.here hx rfl (hb hby d7_296) rfl ?_
     exact kt
    obtain ⟨T997, h997, L997, X997, e997, Nq997, K997, A997, st997⟩ := cpA X996 hx hZ hown (Wd68 hw) (Wd71 hw) (Wd69 hw) (Wd70 hw) e996 f992 f992 (us := [(.int z0), (.int z1)]) (Or.inl ⟨rfl, rfl⟩) (sp := (0 : Int32)) (dp := (1 : Int32)) (nn := (2 : Int32)) (by decide) (by decide) (by decide) (by decide) (by decide) rfl (oLe rfl) Nh986 gy (g := (fr_add2 m b p1 q1 297 (.val (.int (0 : Int32))) (.val (.int (2 : Int32))) [(.int (2 : Int32)), (.int (1 : Int32)), (.ref y), (.int (0 : Int32)), (.ref y)])) rfl (by rw [hml]; rfl) rfl (hb hby d7_297) (by decide) (W := 0) (by show 2 * 0 + _ ≤ _; exact Nat.le_of_eq rfl) (by decide)
    have V998 : Arv Z h997 y ky .int (8 : Int32) [(.int z0), (.int z0), (.int z1), (.int (0 : Int32)), (.int (0 : Int32)), (.int (0 : Int32)), (.int (0 : Int32)), (.int (0 : Int32))] (.int (0 : Int32)) := A997
    refine ownBy st997 ?_
    clear st997
    show ownG p.tables e below _ (T997.setTop (fr_add2 m b p1 q1 300 (.val (.int (0 : Int32))) (.val (.int (2 : Int32))) []))
    refine ownBy (A := T997.setTop (fr_add2 m b p1 q1 301 (.val (.int (0 : Int32))) (.val (.int (2 : Int32))) [(.ref b)])) (fun t kt => ?_) ?_
    ·refine XS.aloadN X997.here hx rfl (hb hby d7_300) rfl rfl ?_
     exact kt
    have f1000 := (((((Fh.ext E953).other W961 (Or.inr (slot_ne (Or.inl (Wd40 hw)) (Or.inl (Wd73 hw)) (by decide) (t := (.array (.object "java/math/BigDecimal"))) (t' := (.array .long)) (by decide) (by decide)))).other W973 (Or.inl ne954)).other W983 (Or.inl ne954)).keep K997 (ninS ne651 nin0))
    refine own_getF X997 hx hZ hown (host := "") (Or.inl (Wd39 hw)) Via.refl e997 f1000 (hb hby d7_301) (fun T999 X999 e999 => ?_)
    refine ownBy (A := T999.setTop (fr_add2 m b p1 q1 307 (.val (.int (0 : Int32))) (.val (.int (2 : Int32))) [(.ref b), (.int (0 : Int32)), (.ref hh)])) (fun t kt => ?_) ?_
    ·refine XS.iload X999.here hx rfl (hb hby d7_304) rfl ?_
     refine XS.aloadN X999.here hx rfl (hb hby d7_306) rfl rfl ?_
     exact kt
    refine own_getF X999 hx hZ hown (host := "") (Or.inl (Wd39 hw)) Via.refl e999 f1000 (hb hby d7_307) (fun T1001 X1001 e1001 => ?_)
    refine ownBy (A := T1001.setTop (fr_add2 m b p1 q1 315 (.val (.int (0 : Int32))) (.val (.int (2 : Int32))) [(.ref b), (.int (1 : Int32)), (.ref hh), (.int (0 : Int32)), (.ref hh)])) (fun t kt => ?_) ?_
    ·refine XS.iload X1001.here hx rfl (hb hby d7_310) rfl ?_
     refine XS.iconst X1001.here hx rfl (hb hby d7_312) ?_
     refine XS.iadd X1001.here hx rfl (hb hby d7_313) rfl ?_
     show Steps p.tables e below (T1001.setTop (fr_add2 m b p1 q1 314 (.val (.int (0 : Int32))) (.val (.int (2 : Int32))) [(.int (1 : Int32)), (.ref hh), (.int (0 : Int32)), (.ref hh)])) t
     refine XS.aloadN X1001.here hx rfl (hb hby d7_314) rfl rfl ?_
     exact kt
    have f1003 := (f988.keep K997 (ninS ne651 nin0))
    refine own_getF X1001 hx hZ hown (host := "") (Or.inl (Wd64 hw)) Via.refl e1001 f1003 (hb hby d7_315) (fun T1002 X1002 e1002 => ?_)
    refine ownBy (A := T1002.setTop (fr_add2 m b p1 q1 321 (.val (.int (0 : Int32))) (.val (.int (2 : Int32))) [(.int (2 : Int32)), (.int (1 : Int32)), (.ref hh), (.int (0 : Int32)), (.ref hh)])) (fun t kt => ?_) ?_
    ·refine XS.iload X1002.here hx rfl (hb hby d7_318) rfl ?_
     refine XS.isub X1002.here hx rfl (hb hby d7_320) rfl ?_
     exact kt
    have f1005 := (((((Ah.ext E953).other W961 (Ne.symm ne652)).other W973 ne956).other W983 ne956).keep K997 (ninS (Ne.symm ne654) nin0))
    obtain ⟨T1004, h1004, L1004, X1004, e1004, Nq1004, K1004, A1004, st1004⟩ := cpA X1002 hx hZ hown (Wd68 hw) (Wd71 hw) (Wd69 hw) (Wd70 hw) e1002 f1005 f1005 (us := [.null, .null]) (Or.inr ⟨rfl, rfl, ⟨Or.inl rfl, ⟨Or.inl rfl, trivial⟩⟩⟩) (sp := (0 : Int32)) (dp := (1 : Int32)) (nn := (2 : Int32)) (by decide) (by decide) (by decide) (by decide) (by decide) rfl (oLe rfl) Nq997 gh (g := (fr_add2 m b p1 q1 321 (.val (.int (0 : Int32))) (.val (.int (2 : Int32))) [(.int (2 : Int32)), (.int (1 : Int32)), (.ref hh), (.int (0 : Int32)), (.ref hh)])) rfl (by rw [hml]; rfl) rfl (hb hby d7_321) (by decide) (W := 0) (by show 2 * 0 + _ ≤ _; exact Nat.le_of_eq rfl) (by decide)
    have V1006 : Arv Z h1004 hh kh (.object "java/math/BigDecimal") (8 : Int32) [.null, .null, .null, .null, .null, .null, .null, .null] .null := A1004
    refine ownBy st1004 ?_
    clear st1004
    show ownG p.tables e below _ (T1004.setTop (fr_add2 m b p1 q1 324 (.val (.int (0 : Int32))) (.val (.int (2 : Int32))) []))
    refine ownBy (A := T1004.setTop (fr_add2 m b p1 q1 325 (.val (.int (0 : Int32))) (.val (.int (2 : Int32))) [(.ref b)])) (fun t kt => ?_) ?_
    ·refine XS.aloadN X1004.here hx rfl (hb hby d7_324) rfl rfl ?_
     exact kt
    have f1008 := ((f991.keep K997 (ninS ne651 nin0)).keep K1004 (ninS ne652 nin0))
    refine own_getF X1004 hx hZ hown (host := "") (Or.inl (Wd35 hw)) Via.refl e1004 f1008 (hb hby d7_325) (fun T1007 X1007 e1007 => ?_)
    refine ownBy (A := T1007.setTop (fr_add2 m b p1 q1 331 (.val (.int (0 : Int32))) (.val (.int (2 : Int32))) [(.int p1), (.int (0 : Int32)), (.ref y)])) (fun t kt => ?_) ?_
    ·refine XS.iload X1007.here hx rfl (hb hby d7_328) rfl ?_
     refine XS.iloadN X1007.here hx rfl (hb hby d7_330) rfl ?_
     exact kt
    have f1009 := (V998.keep K1004 (ninS ne654 nin0))
    obtain ⟨cl1010, Ar1010, q1010, S1010, N1010, H1010, G1010⟩ := id f1009
    have hin1010 : ¬ ((0 : Int32) < 0 ∨ cl1010.slots.size ≤ ((0 : Int32)).toNatClampNeg) := inb_of S1010 ⟨by decide, by decide⟩
    obtain ⟨T1010, h1010, X1010, e1010, W1010, st1010⟩ := stI X1007 hx hZ e1007 Ar1010 (j := (0 : Int32)) hin1010 (g := (fr_add2 m b p1 q1 331 (.val (.int (0 : Int32))) (.val (.int (2 : Int32))) [(.int p1), (.int (0 : Int32)), (.ref y)])) rfl rfl (hb hby d7_331)
    have V1011 : Arv Z h1010 y ky .int (8 : Int32) [(.int p1), (.int z0), (.int z1), (.int (0 : Int32)), (.int (0 : Int32)), (.int (0 : Int32)), (.int (0 : Int32)), (.int (0 : Int32))] (.int (0 : Int32)) := Arv.set Ar1010 q1010 S1010 N1010 H1010 G1010 rfl W1010 0 rfl (oLe rfl)
    clear hin1010 G1010 H1010 N1010 S1010 q1010 Ar1010 cl1010 f1009
    have N1012 := Fr.snoc X1010 Nq1004 gy
    obtain ⟨Lh1013, Xh1013, Nh1013⟩ := oHd 1 8 X1010 N1012 rfl rfl
    refine ownBy st1010 ?_
    clear st1010
    show ownG p.tables e below _ (T1010.setTop (fr_add2 m b p1 q1 332 (.val (.int (0 : Int32))) (.val (.int (2 : Int32))) []))
    refine ownBy (A := T1010.setTop (fr_add2 m b p1 q1 333 (.val (.int (0 : Int32))) (.val (.int (2 : Int32))) [(.ref b)])) (fun t kt => ?_) ?_
    ·refine XS.aloadN Xh1013.here hx rfl (hb hby d7_332) rfl rfl ?_
     exact kt
    have f1015 := ((f1000.keep K1004 (ninS ne652 nin0)).other W1010 (Or.inl ne651))
    refine own_getF Xh1013 hx hZ hown (host := "") (Or.inl (Wd39 hw)) Via.refl e1010 f1015 (hb hby d7_333) (fun T1014 X1014 e1014 => ?_)
    refine ownBy (A := T1014.setTop (fr_add2 m b p1 q1 339 (.val (.int (0 : Int32))) (.val (.int (2 : Int32))) [.null, (.int (0 : Int32)), (.ref hh)])) (fun t kt => ?_) ?_
    ·refine XS.iload X1014.here hx rfl (hb hby d7_336) rfl ?_
     refine XS.aloadN X1014.here hx rfl (hb hby d7_338) rfl rfl ?_
     exact kt
    have f1016 := (V1006.other W1010 (Ne.symm ne654))
    obtain ⟨cl1017, Ar1017, q1017, S1017, N1017, H1017, G1017⟩ := id f1016
    have hin1017 : ¬ ((0 : Int32) < 0 ∨ cl1017.slots.size ≤ ((0 : Int32)).toNatClampNeg) := inb_of S1017 ⟨by decide, by decide⟩
    obtain ⟨T1017, h1017, X1017, e1017, W1017, st1017⟩ := stR X1014 hx hZ e1014 Ar1017 (j := (0 : Int32)) hin1017 rfl (Or.inl rfl) (g := (fr_add2 m b p1 q1 339 (.val (.int (0 : Int32))) (.val (.int (2 : Int32))) [.null, (.int (0 : Int32)), (.ref hh)])) rfl rfl (hb hby d7_339)
    have V1018 : Arv Z h1017 hh kh (.object "java/math/BigDecimal") (8 : Int32) [.null, .null, .null, .null, .null, .null, .null, .null] .null := Arv.set Ar1017 q1017 S1017 N1017 H1017 G1017 rfl W1017 0 rfl (oLe rfl)
    have N1019 := Fr.snoc X1017 Nh1013 gh
    obtain ⟨Lh1020, Xh1020, Nh1020⟩ := oHd 1 8 X1017 N1019 rfl rfl
    refine ownBy st1017 ?_
    clear st1017
    show ownG p.tables e below _ (T1017.setTop (fr_add2 m b p1 q1 340 (.val (.int (0 : Int32))) (.val (.int (2 : Int32))) []))
    refine ownBy (A := T1017.setTop (fr_add2 m b p1 q1 341 (.val (.int (0 : Int32))) (.val (.int (2 : Int32))) [(.ref b)])) (fun t kt => ?_) ?_
    ·refine XS.aloadN Xh1020.here hx rfl (hb hby d7_340) rfl rfl ?_
     exact kt
    have f1022 := (((((f980.other W983 (Or.inl ne954)).keep K997 (ninS ne651 nin0)).keep K1004 (ninS ne652 nin0)).other W1010 (Or.inl ne651)).other W1017 (Or.inl ne652))
    refine own_getF Xh1020 hx hZ hown (host := "") (Or.inl (Wd72 hw)) Via.refl e1017 f1022 (hb hby d7_341) (fun T1021 X1021 e1021 => ?_)
    refine ownBy (A := T1021.setTop (fr_add2 m b p1 q1 348 (.val (.int (0 : Int32))) (.val (.int (2 : Int32))) [(.ref b)])) (fun t kt => ?_) ?_
    ·refine XS.ifnullNo X1021.here hx rfl (hb hby d7_344) rfl ?_
     refine XS.aloadN X1021.here hx rfl (hb hby d7_347) rfl rfl ?_
     exact kt
    refine own_getF X1021 hx hZ hown (host := "") (Or.inl (Wd72 hw)) Via.refl e1021 f1022 (hb hby d7_348) (fun T1023 X1023 e1023 => ?_)
    refine ownBy (A := T1023.setTop (fr_add2 m b p1 q1 354 (.val (.int (0 : Int32))) (.val (.int (2 : Int32))) [(.ref b), (.int (0 : Int32)), (.ref b953)])) (fun t kt => ?_) ?_
    ·refine XS.iload X1023.here hx rfl (hb hby d7_351) rfl ?_
     refine XS.aloadN X1023.here hx rfl (hb hby d7_353) rfl rfl ?_
     exact kt
    refine own_getF X1023 hx hZ hown (host := "") (Or.inl (Wd72 hw)) Via.refl e1023 f1022 (hb hby d7_354) (fun T1024 X1024 e1024 => ?_)
    refine ownBy (A := T1024.setTop (fr_add2 m b p1 q1 362 (.val (.int (0 : Int32))) (.val (.int (2 : Int32))) [(.ref b), (.int (1 : Int32)), (.ref b953), (.int (0 : Int32)), (.ref b953)])) (fun t kt => ?_) ?_
    ·refine XS.iload X1024.here hx rfl (hb hby d7_357) rfl ?_
     refine XS.iconst X1024.here hx rfl (hb hby d7_359) ?_
     refine XS.iadd X1024.here hx rfl (hb hby d7_360) rfl ?_
     show Steps p.tables e below (T1024.setTop (fr_add2 m b p1 q1 361 (.val (.int (0 : Int32))) (.val (.int (2 : Int32))) [(.int (1 : Int32)), (.ref b953), (.int (0 : Int32)), (.ref b953)])) t
     refine XS.aloadN X1024.here hx rfl (hb hby d7_361) rfl rfl ?_
     exact kt
    have f1026 := (((f1003.keep K1004 (ninS ne652 nin0)).other W1010 (Or.inl ne651)).other W1017 (Or.inl ne652))
    refine own_getF X1024 hx hZ hown (host := "") (Or.inl (Wd64 hw)) Via.refl e1024 f1026 (hb hby d7_362) (fun T1025 X1025 e1025 => ?_)
    refine ownBy (A := T1025.setTop (fr_add2 m b p1 q1 368 (.val (.int (0 : Int32))) (.val (.int (2 : Int32))) [(.int (2 : Int32)), (.int (1 : Int32)), (.ref b953), (.int (0 : Int32)), (.ref b953)])) (fun t kt => ?_) ?_
    ·refine XS.iload X1025.here hx rfl (hb hby d7_365) rfl ?_
     refine XS.isub X1025.here hx rfl (hb hby d7_367) rfl ?_
     exact kt
    have f1028 := ((((V984.keep K997 (ninS (Ne.symm ne955) nin0)).keep K1004 (ninS (Ne.symm ne956) nin0)).other W1010 (Ne.symm ne955)).other W1017 (Ne.symm ne956))
    obtain ⟨T1027, h1027, L1027, X1027, e1027, Nq1027, K1027, A1027, st1027⟩ := cpA X1025 hx hZ hown (Wd68 hw) (Wd71 hw) (Wd69 hw) (Wd70 hw) e1025 f1028 f1028 (us := [(.long (f1 + (0 : Int64))), (.long (f1 + (1 : Int64)))]) (Or.inl ⟨rfl, rfl⟩) (sp := (0 : Int32)) (dp := (1 : Int32)) (nn := (2 : Int32)) (by decide) (by decide) (by decide) (by decide) (by decide) rfl (oLe rfl) Nh1020 g958 (g := (fr_add2 m b p1 q1 368 (.val (.int (0 : Int32))) (.val (.int (2 : Int32))) [(.int (2 : Int32)), (.int (1 : Int32)), (.ref b953), (.int (0 : Int32)), (.ref b953)])) rfl (by rw [hml]; rfl) rfl (hb hby d7_368) (by decide) (W := 0) (by show 2 * 0 + _ ≤ _; exact Nat.le_of_eq rfl) (by decide)
    have V1029 : Arv Z h1027 b953 k953 .long (8 : Int32) [(.long (f1 + (0 : Int64))), (.long (f1 + (0 : Int64))), (.long (f1 + (1 : Int64))), (.long (0 : Int64)), (.long (0 : Int64)), (.long (0 : Int64)), (.long (0 : Int64)), (.long (0 : Int64))] (.long (0 : Int64)) := A1027
    refine ownBy st1027 ?_
    clear st1027
    show ownG p.tables e below _ (T1027.setTop (fr_add2 m b p1 q1 371 (.val (.int (0 : Int32))) (.val (.int (2 : Int32))) []))
    refine ownBy (A := T1027.setTop (fr_add2 m b p1 q1 372 (.val (.int (0 : Int32))) (.val (.int (2 : Int32))) [(.ref b)])) (fun t kt => ?_) ?_
    ·refine XS.aloadN X1027.here hx rfl (hb hby d7_371) rfl rfl ?_
     exact kt
    have f1031 := (f1022.keep K1027 (ninS ne954 nin0))
    refine own_getF X1027 hx hZ hown (host := "") (Or.inl (Wd72 hw)) Via.refl e1027 f1031 (hb hby d7_372) (fun T1030 X1030 e1030 => ?_)
    refine ownBy (A := T1030.setTop (fr_add2 m b p1 q1 379 (.val (.int (0 : Int32))) (.val (.int (2 : Int32))) [(.long q1), (.int (0 : Int32)), (.ref b953)])) (fun t kt => ?_) ?_
    ·refine XS.iload X1030.here hx rfl (hb hby d7_375) rfl ?_
     refine XS.lload X1030.here hx rfl (hb hby d7_377) rfl ?_
     exact kt
    obtain ⟨cl1032, Ar1032, q1032, S1032, N1032, H1032, G1032⟩ := id V1029
    have hin1032 : ¬ ((0 : Int32) < 0 ∨ cl1032.slots.size ≤ ((0 : Int32)).toNatClampNeg) := inb_of S1032 ⟨by decide, by decide⟩
    obtain ⟨T1032, h1032, X1032, e1032, W1032, st1032⟩ := stJ X1030 hx hZ e1030 Ar1032 (j := (0 : Int32)) hin1032 (g := (fr_add2 m b p1 q1 379 (.val (.int (0 : Int32))) (.val (.int (2 : Int32))) [(.long q1), (.int (0 : Int32)), (.ref b953)])) rfl rfl (hb hby d7_379)
    have V1033 : Arv Z h1032 b953 k953 .long (8 : Int32) [(.long q1), (.long (f1 + (0 : Int64))), (.long (f1 + (1 : Int64))), (.long (0 : Int64)), (.long (0 : Int64)), (.long (0 : Int64)), (.long (0 : Int64)), (.long (0 : Int64))] (.long (0 : Int64)) := Arv.set Ar1032 q1032 S1032 N1032 H1032 G1032 rfl W1032 0 rfl (oLe rfl)
    clear hin1032 G1032 H1032 N1032 S1032 q1032 Ar1032 cl1032 V1029
    have N1034 := Fr.snoc X1032 Nq1027 g958
    obtain ⟨Lh1035, Xh1035, Nh1035⟩ := oHd 1 8 X1032 N1034 rfl rfl
    refine ownBy st1032 ?_
    clear st1032
    show ownG p.tables e below _ (T1032.setTop (fr_add2 m b p1 q1 380 (.val (.int (0 : Int32))) (.val (.int (2 : Int32))) []))
    refine ownBy (A := T1032.setTop (fr_add2 m b p1 q1 386 (.val (.int (0 : Int32))) (.val (.int (0 : Int32))) [(.ref b), (.int (0 : Int32))])) (fun t kt => ?_) ?_
    ·refine XS.iconst Xh1035.here hx rfl (hb hby d7_380) ?_
     refine XS.istore Xh1035.here hx rfl (hb hby d7_381) rfl (l' := #[.val (.ref b), .val (.int p1), .val .null, .val .null, .val (.long q1), .second, .val (.int (0 : Int32)), .val (.int (0 : Int32)), .unset]) rfl ?_
     refine XS.iload Xh1035.here hx rfl (hb hby d7_383) rfl ?_
     show Steps p.tables e below (T1032.setTop (fr_add2 m b p1 q1 385 (.val (.int (0 : Int32))) (.val (.int (0 : Int32))) [(.int (0 : Int32))])) t
     refine XS.aloadN Xh1035.here hx rfl (hb hby d7_385) rfl rfl ?_
     exact kt
    have f1037 := ((((((((((Fn.ext E953).other W961 (Or.inr (slot_ne (Or.inr (Wd58 hw)) (Or.inl (Wd73 hw)) (by decide) (t := (.array (.array .long))) (t' := (.array .long)) (by decide) (by decide)))).other W973 (Or.inl ne954)).other W983 (Or.inl ne954)).keep K997 (ninS ne651 nin0)).keep K1004 (ninS ne652 nin0)).other W1010 (Or.inl ne651)).other W1017 (Or.inl ne652)).keep K1027 (ninS ne954 nin0)).other W1032 (Or.inl ne954))
    refine own_getF Xh1035 hx hZ hown (host := "") (Or.inl (Wd57 hw)) Via.refl e1032 f1037 (hb hby d7_386) (fun T1036 X1036 e1036 => ?_)
    have f1038 := ((((((((((An.ext E953).other W961 (Ne.symm ne653)).other W973 ne957).other W983 ne957).keep K997 (ninS (Ne.symm ne655) nin0)).keep K1004 (ninS (Ne.symm ne656) nin0)).other W1010 (Ne.symm ne655)).other W1017 (Ne.symm ne656)).keep K1027 (ninS ne957 nin0)).other W1032 ne957)
    obtain ⟨cl1039, Ar1039, -, S1039, N1039, -, -⟩ := id f1038
    have st1039 := X1036.arraylength hx (by rw [e1036]; exact Ar1039.1) (State.isArrayOf_alike hZ.alike Ar1039.2.1) (g := (fr_add2 m b p1 q1 389 (.val (.int (0 : Int32))) (.val (.int (0 : Int32))) [(.ref nn), (.int (0 : Int32))])) rfl rfl (hb hby d7_389)
    rw [len_of S1039 N1039] at st1039
    refine ownBy st1039 ?_
    show ownG p.tables e below _ (T1036.setTop (fr_add2 m b p1 q1 390 (.val (.int (0 : Int32))) (.val (.int (0 : Int32))) [(.int (0 : Int32)), (.int (0 : Int32))]))
    refine ownBy (A := T1036.setTop (fr_add2 m b p1 q1 463 (.val (.int (0 : Int32))) (.val (.int (0 : Int32))) [(.ref b), (.ref b)])) (fun t kt => ?_) ?_
    ·refine XS.icmpYes X1036.here hx rfl (pc0 := 390) (pc' := 461) rfl (hb hby d7_390) rfl (flt ((by decide) : ¬ ((0 : Int32) < (0 : Int32)))).2.1 (by decide) (by decide) ?_
     refine XS.aloadN X1036.here hx rfl (hb hby d7_461) rfl rfl ?_
     refine XS.dup X1036.here hx rfl (hb hby d7_462) rfl rfl ?_
     exact kt
    have f1041 := ((f1026.keep K1027 (ninS ne954 nin0)).other W1032 (Or.inl ne954))
    refine own_getF X1036 hx hZ hown (host := "") (Or.inl (Wd64 hw)) Via.refl e1036 f1041 (hb hby d7_463) (fun T1040 X1040 e1040 => ?_)
    refine ownBy (A := T1040.setTop (fr_add2 m b p1 q1 468 (.val (.int (0 : Int32))) (.val (.int (0 : Int32))) [(.int (3 : Int32)), (.ref b)])) (fun t kt => ?_) ?_
    ·refine XS.iconst X1040.here hx rfl (hb hby d7_466) ?_
     refine XS.iadd X1040.here hx rfl (hb hby d7_467) rfl ?_
     exact kt
    have f1043 := (((((((((f963.wr W961).wr W973).wr W983).keep K997).keep K1004).wr W1010).wr W1017).keep K1027).wr W1032)
    obtain ⟨T1042, h1042, X1042, e1042, W1042, st1042⟩ := putF X1040 hx hZ hown (host := "") (Or.inl (Wd64 hw)) Via.refl e1040 f1041 f1043 (Or.inl (Wd65 hw)) (Wd3 hw) (ty := .int) (by decide) rfl rfl (g := (fr_add2 m b p1 q1 468 (.val (.int (0 : Int32))) (.val (.int (0 : Int32))) [(.int (3 : Int32)), (.ref b)])) rfl rfl (hb hby d7_468)
    have F1044 := f1041.same W1042
    have N1045 := Fr.snoc X1042 Nh1035 gb
    obtain ⟨Lh1046, Xh1046, Nh1046⟩ := oHd 1 8 X1042 N1045 rfl rfl
    refine ownBy st1042 ?_
    clear st1042
    show ownG p.tables e below _ (T1042.setTop (fr_add2 m b p1 q1 471 (.val (.int (0 : Int32))) (.val (.int (0 : Int32))) []))
    have f1047 := (V1033.other W1042 (Ne.symm ne954))
    have f1049 := (f1043.wr W1042)
    have f1050 := (((((f1008.other W1010 (Or.inl ne651)).other W1017 (Or.inl ne652)).keep K1027 (ninS ne954 nin0)).other W1032 (Or.inl ne954)).other W1042 (Or.inr (slot_ne (Or.inl (Wd36 hw)) (Or.inl (Wd65 hw)) (by decide) (t := (.array .int)) (t' := .int) (by decide) (by decide))))
    have f1051 := ((((f1015.other W1017 (Or.inl ne652)).keep K1027 (ninS ne954 nin0)).other W1032 (Or.inl ne954)).other W1042 (Or.inr (slot_ne (Or.inl (Wd40 hw)) (Or.inl (Wd65 hw)) (by decide) (t := (.array (.object "java/math/BigDecimal"))) (t' := .int) (by decide) (by decide))))
    have f1052 := (f1037.other W1042 (Or.inr (slot_ne (Or.inr (Wd58 hw)) (Or.inl (Wd65 hw)) (by decide) (t := (.array (.array .long))) (t' := .int) (by decide) (by decide))))
    have f1053 := ((((((((f982.other W983 (Or.inl ne954)).keep K997 (ninS ne651 nin0)).keep K1004 (ninS ne652 nin0)).other W1010 (Or.inl ne651)).other W1017 (Or.inl ne652)).keep K1027 (ninS ne954 nin0)).other W1032 (Or.inl ne954)).other W1042 (Or.inr (slot_ne (Or.inl (Wd67 hw)) (Or.inl (Wd65 hw)) (by decide) (t := .long) (t' := .int) (by decide) (by decide))))
    have f1054 := ((f1031.other W1032 (Or.inl ne954)).other W1042 (Or.inr (slot_ne (Or.inl (Wd73 hw)) (Or.inl (Wd65 hw)) (by decide) (t := (.array .long)) (t' := .int) (by decide) (by decide))))
    have f1055 := ((((V1011.other W1017 ne654).keep K1027 (ninS ne955 nin0)).other W1032 ne955).other W1042 (Ne.symm ne651))
    have f1056 := (((V1018.keep K1027 (ninS ne956 nin0)).other W1032 ne956).other W1042 (Ne.symm ne652))
    have f1057 := (f1038.other W1042 (Ne.symm ne653))
    have f1058 := (Nat.le_trans (Nat.le_trans (Nat.le_trans (Nat.le_trans (Nat.le_trans (Nat.le_trans (Nat.le_trans (Nat.le_trans (Nat.le_trans (Nat.le_trans (Nat.le_trans (Nat.le_refl h0.size) E953.1) (Keep.of_wr W961).1) (Keep.of_wr W973).1) (Keep.of_wr W983).1) K997.1) K1004.1) (Keep.of_wr W1010).1) (Keep.of_wr W1017).1) K1027.1) (Keep.of_wr W1032).1) (Keep.of_wr W1042).1)
    refine ownRet Xh1046 Bd.notSynchronized (v := none) (fun _ => rfl) ?_ (oLe rfl) (oLe rfl) (fun fs hr => Xh1046.returnOut hx Bd.returns (hb hby d7_471) hr)
    show (Q_add2 Z b y hh nn ky kh kn z0 z1 m0 m1 f1 lv p1 q1 h0 n0) (none) T1042.heap _
    rw [e1042]
    have V1048 := f1047
    rw [← hm0, ← hm1] at V1048
    exact ⟨rfl, Nh1046, f1058, p1, z0, z1, q1, m0, m1, f1, (.ref b953), hb832_3_1, hs0, Or.inl ⟨rfl, rfl, rfl, rfl, rfl, rfl⟩, f1049, f1050, f1051, f1052, F1044, f1053, f1054, f1055, f1056, f1057, Or.inr ⟨b953, k953, rfl, g958, V1048⟩⟩
   ·skip
    exfalso
    simp only [Int32.lt_iff_toInt_lt, ← Int32.toInt_inj] at hb832_4_0 hb832_4_1 hne0 hne1
    omega
 ·rw [hlv] at Fl
  have ne1059 : b ≠ y := Exa.neArv E1 Ay (Wd3 hw)
  have ne1060 : b ≠ hh := Exa.neArv E1 Ah (Wd3 hw)
  have ne1061 : b ≠ nn := Exa.neArv E1 An (Wd3 hw)
  have ne1062 : b ≠ ln := Exa.neArv E1 Al (Wd3 hw)
  have ne1063 : y ≠ hh := own_ty_ne Ay Ah (by decide)
  have ne1064 : y ≠ nn := own_ty_ne Ay An (by decide)
  have ne1065 : y ≠ ln := own_ty_ne Ay Al (by decide)
  have ne1066 : hh ≠ nn := own_ty_ne Ah An (by decide)
  have ne1067 : hh ≠ ln := own_ty_ne Ah Al (by decide)
  have ne1068 : nn ≠ ln := own_ty_ne An Al (by decide)
  refine ownBy (A := s₁.setTop (fr_add2 m b p1 q1 1 .unset .unset [(.ref b)])) (fun t kt => ?_) ?_
  ·refine XS.aloadN X0.here hx rfl (hb hby d7_0) rfl rfl ?_
   exact kt
  refine own_getF X0 hx hZ hown (host := "") (Or.inl (Wd64 hw)) Via.refl e0 Fs (hb hby d7_1) (fun T1069 X1069 e1069 => ?_)
  refine ownBy (A := T1069.setTop (fr_add2 m b p1 q1 7 (.val (.int (2 : Int32))) .unset [(.ref b)])) (fun t kt => ?_) ?_
  ·refine XS.istore X1069.here hx rfl (hb hby d7_4) rfl (l' := #[.val (.ref b), .val (.int p1), .val .null, .val .null, .val (.long q1), .second, .val (.int (2 : Int32)), .unset, .unset]) rfl ?_
   refine XS.aloadN X1069.here hx rfl (hb hby d7_6) rfl rfl ?_
   exact kt
  refine own_getF X1069 hx hZ hown (host := "") (Or.inl (Wd64 hw)) Via.refl e1069 Fs (hb hby d7_7) (fun T1070 X1070 e1070 => ?_)
  refine ownBy (A := T1070.setTop (fr_add2 m b p1 q1 14 (.val (.int (2 : Int32))) .unset [(.ref b)])) (fun t kt => ?_) ?_
  ·refine XS.ifNo X1070.here hx rfl (hb hby d7_10) rfl ((if0 _ _).trans (tlt ((by decide) : (0 : Int32) < (2 : Int32))).2.2.2) ?_
   refine XS.aloadN X1070.here hx rfl (hb hby d7_13) rfl rfl ?_
   exact kt
  refine own_getF X1070 hx hZ hown (host := "") (Or.inl (Wd35 hw)) Via.refl e1070 Fy (hb hby d7_14) (fun T1071 X1071 e1071 => ?_)
  refine ownBy (A := T1071.setTop (fr_add2 m b p1 q1 18 (.val (.int (2 : Int32))) .unset [(.ref b), (.ref y)])) (fun t kt => ?_) ?_
  ·refine XS.aloadN X1071.here hx rfl (hb hby d7_17) rfl rfl ?_
   exact kt
  refine own_getF X1071 hx hZ hown (host := "") (Or.inl (Wd64 hw)) Via.refl e1071 Fs (hb hby d7_18) (fun T1072 X1072 e1072 => ?_)
  refine ownBy (A := T1072.setTop (fr_add2 m b p1 q1 23 (.val (.int (2 : Int32))) .unset [(.int (1 : Int32)), (.ref y)])) (fun t kt => ?_) ?_
  ·refine XS.iconst X1072.here hx rfl (hb hby d7_21) ?_
   refine XS.isub X1072.here hx rfl (hb hby d7_22) rfl ?_
   exact kt
  obtain ⟨cl1073, Ar1073, q1073, S1073, N1073, H1073, G1073⟩ := id Ay
  have hin1073 : ¬ ((1 : Int32) < 0 ∨ cl1073.slots.size ≤ ((1 : Int32)).toNatClampNeg) := inb_of S1073 ⟨by decide, by decide⟩
  have hat1073 : cl1073.slots[((1 : Int32)).toNatClampNeg]? = some (.int z1) := H1073.at hin1073 rfl
  have st1073 := X1072.iaload hx (j := (1 : Int32)) (v := (.int z1)) (by rw [e1072]; exact Ar1073.1) (State.isArrayOf_alike hZ.alike Ar1073.2.1) Ar1073.2.2 hin1073 hat1073 (g := (fr_add2 m b p1 q1 23 (.val (.int (2 : Int32))) .unset [(.int (1 : Int32)), (.ref y)])) rfl rfl (hb hby d7_23)
  refine ownBy st1073 ?_
  show ownG p.tables e below _ (T1072.setTop (fr_add2 m b p1 q1 24 (.val (.int (2 : Int32))) .unset [(.int z1)]))
  refine ownBy (A := T1072.setTop (fr_add2 m b p1 q1 25 (.val (.int (2 : Int32))) .unset [(.int p1), (.int z1)])) (fun t kt => ?_) ?_
  ·refine XS.iloadN X1072.here hx rfl (hb hby d7_24) rfl ?_
   exact kt
  by_cases hc1074 : z1 < p1
  ·skip
   refine ownBy (A := T1072.setTop (fr_add2 m b p1 q1 70 (.val (.int (2 : Int32))) .unset [(.ref b)])) (fun t kt => ?_) ?_
   ·refine XS.icmpYes X1072.here hx rfl (pc0 := 25) (pc' := 69) rfl (hb hby d7_25) rfl (tlt hc1074).1 (by decide) (by decide) ?_
    refine XS.aloadN X1072.here hx rfl (hb hby d7_69) rfl rfl ?_
    exact kt
   refine own_getF X1072 hx hZ hown (host := "") (Or.inl (Wd64 hw)) Via.refl e1072 Fs (hb hby d7_70) (fun T1075 X1075 e1075 => ?_)
   refine ownBy (A := T1075.setTop (fr_add2 m b p1 q1 86 (.val (.int (2 : Int32))) .unset [(.ref b)])) (fun t kt => ?_) ?_
   ·refine XS.ifYes X1075.here hx rfl (pc0 := 73) (pc' := 85) rfl (hb hby d7_73) rfl ((if0 _ _).trans (feq ((by decide) : ¬ ((2 : Int32) = (0 : Int32)))).2) (by decide) (by decide) ?_
    refine XS.aloadN X1075.here hx rfl (hb hby d7_85) rfl rfl ?_
    exact kt
   refine own_getF X1075 hx hZ hown (host := "") (Or.inl (Wd72 hw)) Via.refl e1075 Fl (hb hby d7_86) (fun T1076 X1076 e1076 => ?_)
   refine ownBy (A := T1076.setTop (fr_add2 m b p1 q1 162 (.val (.int (2 : Int32))) .unset [(.ref b)])) (fun t kt => ?_) ?_
   ·refine XS.ifnonnullYes X1076.here hx rfl (pc0 := 89) (pc' := 161) rfl (hb hby d7_89) rfl (by decide) (by decide) ?_
    refine XS.aloadN X1076.here hx rfl (hb hby d7_161) rfl rfl ?_
    exact kt
   refine own_getF X1076 hx hZ hown (host := "") (Or.inl (Wd64 hw)) Via.refl e1076 Fs (hb hby d7_162) (fun T1077 X1077 e1077 => ?_)
   refine ownBy (A := T1077.setTop (fr_add2 m b p1 q1 166 (.val (.int (2 : Int32))) .unset [(.ref b), (.int (2 : Int32))])) (fun t kt => ?_) ?_
   ·refine XS.aloadN X1077.here hx rfl (hb hby d7_165) rfl rfl ?_
    exact kt
   refine own_getF X1077 hx hZ hown (host := "") (Or.inl (Wd35 hw)) Via.refl e1077 Fy (hb hby d7_166) (fun T1078 X1078 e1078 => ?_)
   obtain ⟨cl1079, Ar1079, -, S1079, N1079, -, -⟩ := id Ay
   have st1079 := X1078.arraylength hx (by rw [e1078]; exact Ar1079.1) (State.isArrayOf_alike hZ.alike Ar1079.2.1) (g := (fr_add2 m b p1 q1 169 (.val (.int (2 : Int32))) .unset [(.ref y), (.int (2 : Int32))])) rfl rfl (hb hby d7_169)
   rw [len_of S1079 N1079] at st1079
   refine ownBy st1079 ?_
   show ownG p.tables e below _ (T1078.setTop (fr_add2 m b p1 q1 170 (.val (.int (2 : Int32))) .unset [(.int (8 : Int32)), (.int (2 : Int32))]))
   refine ownBy (A := T1078.setTop (fr_add2 m b p1 q1 277 (.val (.int (2 : Int32))) .unset [(.ref b)])) (fun t kt => ?_) ?_
   ·refine XS.icmpYes X1078.here hx rfl (pc0 := 170) (pc' := 276) rfl (hb hby d7_170) rfl (feq ((by decide) : ¬ ((2 : Int32) = (8 : Int32)))).2 (by decide) (by decide) ?_
    refine XS.aloadN X1078.here hx rfl (hb hby d7_276) rfl rfl ?_
    exact kt
   refine own_getF X1078 hx hZ hown (host := "") (Or.inl (Wd35 hw)) Via.refl e1078 Fy (hb hby d7_277) (fun T1080 X1080 e1080 => ?_)
   refine ownBy (A := T1080.setTop (fr_add2 m b p1 q1 283 (.val (.int (2 : Int32))) .unset [(.ref b), (.int (2 : Int32)), (.ref y)])) (fun t kt => ?_) ?_
   ·refine XS.iload X1080.here hx rfl (hb hby d7_280) rfl ?_
    refine XS.aloadN X1080.here hx rfl (hb hby d7_282) rfl rfl ?_
    exact kt
   refine own_getF X1080 hx hZ hown (host := "") (Or.inl (Wd35 hw)) Via.refl e1080 Fy (hb hby d7_283) (fun T1081 X1081 e1081 => ?_)
   refine ownBy (A := T1081.setTop (fr_add2 m b p1 q1 291 (.val (.int (2 : Int32))) .unset [(.ref b), (.int (3 : Int32)), (.ref y), (.int (2 : Int32)), (.ref y)])) (fun t kt => ?_) ?_
   ·refine XS.iload X1081.here hx rfl (hb hby d7_286) rfl ?_
    refine XS.iconst X1081.here hx rfl (hb hby d7_288) ?_
    refine XS.iadd X1081.here hx rfl (hb hby d7_289) rfl ?_
    show Steps p.tables e below (T1081.setTop (fr_add2 m b p1 q1 290 (.val (.int (2 : Int32))) .unset [(.int (3 : Int32)), (.ref y), (.int (2 : Int32)), (.ref y)])) t
    refine XS.aloadN X1081.here hx rfl (hb hby d7_290) rfl rfl ?_
    exact kt
   refine own_getF X1081 hx hZ hown (host := "") (Or.inl (Wd64 hw)) Via.refl e1081 Fs (hb hby d7_291) (fun T1082 X1082 e1082 => ?_)
   refine ownBy (A := T1082.setTop (fr_add2 m b p1 q1 297 (.val (.int (2 : Int32))) .unset [(.int (0 : Int32)), (.int (3 : Int32)), (.ref y), (.int (2 : Int32)), (.ref y)])) (fun t kt => ?_) ?_
   ·refine XS.iload X1082.here hx rfl (hb hby d7_294) rfl ?_
    refine XS.isub X1082.here hx rfl (hb hby d7_296) rfl ?_
    exact kt
   obtain ⟨T1083, h1083, L1083, X1083, e1083, Nq1083, K1083, A1083, st1083⟩ := cpA X1082 hx hZ hown (Wd68 hw) (Wd71 hw) (Wd69 hw) (Wd70 hw) e1082 Ay Ay (us := []) (Or.inl ⟨rfl, rfl⟩) (sp := (2 : Int32)) (dp := (3 : Int32)) (nn := (0 : Int32)) (by decide) (by decide) (by decide) (by decide) (by decide) rfl (oLe rfl) N0 gy (g := (fr_add2 m b p1 q1 297 (.val (.int (2 : Int32))) .unset [(.int (0 : Int32)), (.int (3 : Int32)), (.ref y), (.int (2 : Int32)), (.ref y)])) rfl (by rw [hml]; rfl) rfl (hb hby d7_297) (by decide) (W := 0) (by show 2 * 0 + _ ≤ _; exact Nat.le_of_eq rfl) (by decide)
   have V1084 : Arv Z h1083 y ky .int (8 : Int32) [(.int z0), (.int z1), (.int (0 : Int32)), (.int (0 : Int32)), (.int (0 : Int32)), (.int (0 : Int32)), (.int (0 : Int32)), (.int (0 : Int32))] (.int (0 : Int32)) := A1083
   refine ownBy st1083 ?_
   clear st1083
   show ownG p.tables e below _ (T1083.setTop (fr_add2 m b p1 q1 300 (.val (.int (2 : Int32))) .unset []))
   refine ownBy (A := T1083.setTop (fr_add2 m b p1 q1 301 (.val (.int (2 : Int32))) .unset [(.ref b)])) (fun t kt => ?_) ?_
   ·refine XS.aloadN X1083.here hx rfl (hb hby d7_300) rfl rfl ?_
    exact kt
   have f1086 := (Fh.keep K1083 (ninS ne1059 nin0))
   refine own_getF X1083 hx hZ hown (host := "") (Or.inl (Wd39 hw)) Via.refl e1083 f1086 (hb hby d7_301) (fun T1085 X1085 e1085 => ?_)
   refine ownBy (A := T1085.setTop (fr_add2 m b p1 q1 307 (.val (.int (2 : Int32))) .unset [(.ref b), (.int (2 : Int32)), (.ref hh)])) (fun t kt => ?_) ?_
   ·refine XS.iload X1085.here hx rfl (hb hby d7_304) rfl ?_
    refine XS.aloadN X1085.here hx rfl (hb hby d7_306) rfl rfl ?_
    exact kt
   refine own_getF X1085 hx hZ hown (host := "") (Or.inl (Wd39 hw)) Via.refl e1085 f1086 (hb hby d7_307) (fun T1087 X1087 e1087 => ?_)
   refine ownBy (A := T1087.setTop (fr_add2 m b p1 q1 315 (.val (.int (2 : Int32))) .unset [(.ref b), (.int (3 : Int32)), (.ref hh), (.int (2 : Int32)), (.ref hh)])) (fun t kt => ?_) ?_
   ·refine XS.iload X1087.here hx rfl (hb hby d7_310) rfl ?_
    refine XS.iconst X1087.here hx rfl (hb hby d7_312) ?_
    refine XS.iadd X1087.here hx rfl (hb hby d7_313) rfl ?_
    show Steps p.tables e below (T1087.setTop (fr_add2 m b p1 q1 314 (.val (.int (2 : Int32))) .unset [(.int (3 : Int32)), (.ref hh), (.int (2 : Int32)), (.ref hh)])) t
    refine XS.aloadN X1087.here hx rfl (hb hby d7_314) rfl rfl ?_
    exact kt
   have f1089 := (Fs.keep K1083 (ninS ne1059 nin0))
   refine own_getF X1087 hx hZ hown (host := "") (Or.inl (Wd64 hw)) Via.refl e1087 f1089 (hb hby d7_315) (fun T1088 X1088 e1088 => ?_)
   refine ownBy (A := T1088.setTop (fr_add2 m b p1 q1 321 (.val (.int (2 : Int32))) .unset [(.int (0 : Int32)), (.int (3 : Int32)), (.ref hh), (.int (2 : Int32)), (.ref hh)])) (fun t kt => ?_) ?_
   ·refine XS.iload X1088.here hx rfl (hb hby d7_318) rfl ?_
    refine XS.isub X1088.here hx rfl (hb hby d7_320) rfl ?_
    exact kt
   have f1091 := (Ah.keep K1083 (ninS (Ne.symm ne1063) nin0))
   obtain ⟨T1090, h1090, L1090, X1090, e1090, Nq1090, K1090, A1090, st1090⟩ := cpA X1088 hx hZ hown (Wd68 hw) (Wd71 hw) (Wd69 hw) (Wd70 hw) e1088 f1091 f1091 (us := []) (Or.inr ⟨rfl, rfl, trivial⟩) (sp := (2 : Int32)) (dp := (3 : Int32)) (nn := (0 : Int32)) (by decide) (by decide) (by decide) (by decide) (by decide) rfl (oLe rfl) Nq1083 gh (g := (fr_add2 m b p1 q1 321 (.val (.int (2 : Int32))) .unset [(.int (0 : Int32)), (.int (3 : Int32)), (.ref hh), (.int (2 : Int32)), (.ref hh)])) rfl (by rw [hml]; rfl) rfl (hb hby d7_321) (by decide) (W := 0) (by show 2 * 0 + _ ≤ _; exact Nat.le_of_eq rfl) (by decide)
   have V1092 : Arv Z h1090 hh kh (.object "java/math/BigDecimal") (8 : Int32) [.null, .null, .null, .null, .null, .null, .null, .null] .null := A1090
   refine ownBy st1090 ?_
   clear st1090
   show ownG p.tables e below _ (T1090.setTop (fr_add2 m b p1 q1 324 (.val (.int (2 : Int32))) .unset []))
   refine ownBy (A := T1090.setTop (fr_add2 m b p1 q1 325 (.val (.int (2 : Int32))) .unset [(.ref b)])) (fun t kt => ?_) ?_
   ·refine XS.aloadN X1090.here hx rfl (hb hby d7_324) rfl rfl ?_
    exact kt
   have f1094 := ((Fy.keep K1083 (ninS ne1059 nin0)).keep K1090 (ninS ne1060 nin0))
   refine own_getF X1090 hx hZ hown (host := "") (Or.inl (Wd35 hw)) Via.refl e1090 f1094 (hb hby d7_325) (fun T1093 X1093 e1093 => ?_)
   refine ownBy (A := T1093.setTop (fr_add2 m b p1 q1 331 (.val (.int (2 : Int32))) .unset [(.int p1), (.int (2 : Int32)), (.ref y)])) (fun t kt => ?_) ?_
   ·refine XS.iload X1093.here hx rfl (hb hby d7_328) rfl ?_
    refine XS.iloadN X1093.here hx rfl (hb hby d7_330) rfl ?_
    exact kt
   have f1095 := (V1084.keep K1090 (ninS ne1063 nin0))
   obtain ⟨cl1096, Ar1096, q1096, S1096, N1096, H1096, G1096⟩ := id f1095
   have hin1096 : ¬ ((2 : Int32) < 0 ∨ cl1096.slots.size ≤ ((2 : Int32)).toNatClampNeg) := inb_of S1096 ⟨by decide, by decide⟩
   obtain ⟨T1096, h1096, X1096, e1096, W1096, st1096⟩ := stI X1093 hx hZ e1093 Ar1096 (j := (2 : Int32)) hin1096 (g := (fr_add2 m b p1 q1 331 (.val (.int (2 : Int32))) .unset [(.int p1), (.int (2 : Int32)), (.ref y)])) rfl rfl (hb hby d7_331)
   have V1097 : Arv Z h1096 y ky .int (8 : Int32) [(.int z0), (.int z1), (.int p1), (.int (0 : Int32)), (.int (0 : Int32)), (.int (0 : Int32)), (.int (0 : Int32)), (.int (0 : Int32))] (.int (0 : Int32)) := Arv.set Ar1096 q1096 S1096 N1096 H1096 G1096 rfl W1096 2 rfl (oLe rfl)
   clear hin1096 G1096 H1096 N1096 S1096 q1096 Ar1096 cl1096 f1095
   have N1098 := Fr.snoc X1096 Nq1090 gy
   obtain ⟨Lh1099, Xh1099, Nh1099⟩ := oHd 0 0 X1096 N1098 rfl rfl
   refine ownBy st1096 ?_
   clear st1096
   show ownG p.tables e below _ (T1096.setTop (fr_add2 m b p1 q1 332 (.val (.int (2 : Int32))) .unset []))
   refine ownBy (A := T1096.setTop (fr_add2 m b p1 q1 333 (.val (.int (2 : Int32))) .unset [(.ref b)])) (fun t kt => ?_) ?_
   ·refine XS.aloadN Xh1099.here hx rfl (hb hby d7_332) rfl rfl ?_
    exact kt
   have f1101 := ((f1086.keep K1090 (ninS ne1060 nin0)).other W1096 (Or.inl ne1059))
   refine own_getF Xh1099 hx hZ hown (host := "") (Or.inl (Wd39 hw)) Via.refl e1096 f1101 (hb hby d7_333) (fun T1100 X1100 e1100 => ?_)
   refine ownBy (A := T1100.setTop (fr_add2 m b p1 q1 339 (.val (.int (2 : Int32))) .unset [.null, (.int (2 : Int32)), (.ref hh)])) (fun t kt => ?_) ?_
   ·refine XS.iload X1100.here hx rfl (hb hby d7_336) rfl ?_
    refine XS.aloadN X1100.here hx rfl (hb hby d7_338) rfl rfl ?_
    exact kt
   have f1102 := (V1092.other W1096 (Ne.symm ne1063))
   obtain ⟨cl1103, Ar1103, q1103, S1103, N1103, H1103, G1103⟩ := id f1102
   have hin1103 : ¬ ((2 : Int32) < 0 ∨ cl1103.slots.size ≤ ((2 : Int32)).toNatClampNeg) := inb_of S1103 ⟨by decide, by decide⟩
   obtain ⟨T1103, h1103, X1103, e1103, W1103, st1103⟩ := stR X1100 hx hZ e1100 Ar1103 (j := (2 : Int32)) hin1103 rfl (Or.inl rfl) (g := (fr_add2 m b p1 q1 339 (.val (.int (2 : Int32))) .unset [.null, (.int (2 : Int32)), (.ref hh)])) rfl rfl (hb hby d7_339)
   have V1104 : Arv Z h1103 hh kh (.object "java/math/BigDecimal") (8 : Int32) [.null, .null, .null, .null, .null, .null, .null, .null] .null := Arv.set Ar1103 q1103 S1103 N1103 H1103 G1103 rfl W1103 2 rfl (oLe rfl)
   have N1105 := Fr.snoc X1103 Nh1099 gh
   obtain ⟨Lh1106, Xh1106, Nh1106⟩ := oHd 0 0 X1103 N1105 rfl rfl
   refine ownBy st1103 ?_
   clear st1103
   show ownG p.tables e below _ (T1103.setTop (fr_add2 m b p1 q1 340 (.val (.int (2 : Int32))) .unset []))
   refine ownBy (A := T1103.setTop (fr_add2 m b p1 q1 341 (.val (.int (2 : Int32))) .unset [(.ref b)])) (fun t kt => ?_) ?_
   ·refine XS.aloadN Xh1106.here hx rfl (hb hby d7_340) rfl rfl ?_
    exact kt
   have f1108 := ((((Fl.keep K1083 (ninS ne1059 nin0)).keep K1090 (ninS ne1060 nin0)).other W1096 (Or.inl ne1059)).other W1103 (Or.inl ne1060))
   refine own_getF Xh1106 hx hZ hown (host := "") (Or.inl (Wd72 hw)) Via.refl e1103 f1108 (hb hby d7_341) (fun T1107 X1107 e1107 => ?_)
   refine ownBy (A := T1107.setTop (fr_add2 m b p1 q1 348 (.val (.int (2 : Int32))) .unset [(.ref b)])) (fun t kt => ?_) ?_
   ·refine XS.ifnullNo X1107.here hx rfl (hb hby d7_344) rfl ?_
    refine XS.aloadN X1107.here hx rfl (hb hby d7_347) rfl rfl ?_
    exact kt
   refine own_getF X1107 hx hZ hown (host := "") (Or.inl (Wd72 hw)) Via.refl e1107 f1108 (hb hby d7_348) (fun T1109 X1109 e1109 => ?_)
   refine ownBy (A := T1109.setTop (fr_add2 m b p1 q1 354 (.val (.int (2 : Int32))) .unset [(.ref b), (.int (2 : Int32)), (.ref ln)])) (fun t kt => ?_) ?_
   ·refine XS.iload X1109.here hx rfl (hb hby d7_351) rfl ?_
    refine XS.aloadN X1109.here hx rfl (hb hby d7_353) rfl rfl ?_
    exact kt
   refine own_getF X1109 hx hZ hown (host := "") (Or.inl (Wd72 hw)) Via.refl e1109 f1108 (hb hby d7_354) (fun T1110 X1110 e1110 => ?_)
   refine ownBy (A := T1110.setTop (fr_add2 m b p1 q1 362 (.val (.int (2 : Int32))) .unset [(.ref b), (.int (3 : Int32)), (.ref ln), (.int (2 : Int32)), (.ref ln)])) (fun t kt => ?_) ?_
   ·refine XS.iload X1110.here hx rfl (hb hby d7_357) rfl ?_
    refine XS.iconst X1110.here hx rfl (hb hby d7_359) ?_
    refine XS.iadd X1110.here hx rfl (hb hby d7_360) rfl ?_
    show Steps p.tables e below (T1110.setTop (fr_add2 m b p1 q1 361 (.val (.int (2 : Int32))) .unset [(.int (3 : Int32)), (.ref ln), (.int (2 : Int32)), (.ref ln)])) t
    refine XS.aloadN X1110.here hx rfl (hb hby d7_361) rfl rfl ?_
    exact kt
   have f1112 := (((f1089.keep K1090 (ninS ne1060 nin0)).other W1096 (Or.inl ne1059)).other W1103 (Or.inl ne1060))
   refine own_getF X1110 hx hZ hown (host := "") (Or.inl (Wd64 hw)) Via.refl e1110 f1112 (hb hby d7_362) (fun T1111 X1111 e1111 => ?_)
   refine ownBy (A := T1111.setTop (fr_add2 m b p1 q1 368 (.val (.int (2 : Int32))) .unset [(.int (0 : Int32)), (.int (3 : Int32)), (.ref ln), (.int (2 : Int32)), (.ref ln)])) (fun t kt => ?_) ?_
   ·refine XS.iload X1111.here hx rfl (hb hby d7_365) rfl ?_
    refine XS.isub X1111.here hx rfl (hb hby d7_367) rfl ?_
    exact kt
   have f1114 := ((((Al.keep K1083 (ninS (Ne.symm ne1065) nin0)).keep K1090 (ninS (Ne.symm ne1067) nin0)).other W1096 (Ne.symm ne1065)).other W1103 (Ne.symm ne1067))
   obtain ⟨T1113, h1113, L1113, X1113, e1113, Nq1113, K1113, A1113, st1113⟩ := cpA X1111 hx hZ hown (Wd68 hw) (Wd71 hw) (Wd69 hw) (Wd70 hw) e1111 f1114 f1114 (us := []) (Or.inl ⟨rfl, rfl⟩) (sp := (2 : Int32)) (dp := (3 : Int32)) (nn := (0 : Int32)) (by decide) (by decide) (by decide) (by decide) (by decide) rfl (oLe rfl) Nh1106 gl (g := (fr_add2 m b p1 q1 368 (.val (.int (2 : Int32))) .unset [(.int (0 : Int32)), (.int (3 : Int32)), (.ref ln), (.int (2 : Int32)), (.ref ln)])) rfl (by rw [hml]; rfl) rfl (hb hby d7_368) (by decide) (W := 0) (by show 2 * 0 + _ ≤ _; exact Nat.le_of_eq rfl) (by decide)
   have V1115 : Arv Z h1113 ln kl .long (8 : Int32) [(.long m0), (.long m1), (.long (0 : Int64)), (.long (0 : Int64)), (.long (0 : Int64)), (.long (0 : Int64)), (.long (0 : Int64)), (.long (0 : Int64))] (.long (0 : Int64)) := A1113
   refine ownBy st1113 ?_
   clear st1113
   show ownG p.tables e below _ (T1113.setTop (fr_add2 m b p1 q1 371 (.val (.int (2 : Int32))) .unset []))
   refine ownBy (A := T1113.setTop (fr_add2 m b p1 q1 372 (.val (.int (2 : Int32))) .unset [(.ref b)])) (fun t kt => ?_) ?_
   ·refine XS.aloadN X1113.here hx rfl (hb hby d7_371) rfl rfl ?_
    exact kt
   have f1117 := (f1108.keep K1113 (ninS ne1062 nin0))
   refine own_getF X1113 hx hZ hown (host := "") (Or.inl (Wd72 hw)) Via.refl e1113 f1117 (hb hby d7_372) (fun T1116 X1116 e1116 => ?_)
   refine ownBy (A := T1116.setTop (fr_add2 m b p1 q1 379 (.val (.int (2 : Int32))) .unset [(.long q1), (.int (2 : Int32)), (.ref ln)])) (fun t kt => ?_) ?_
   ·refine XS.iload X1116.here hx rfl (hb hby d7_375) rfl ?_
    refine XS.lload X1116.here hx rfl (hb hby d7_377) rfl ?_
    exact kt
   obtain ⟨cl1118, Ar1118, q1118, S1118, N1118, H1118, G1118⟩ := id V1115
   have hin1118 : ¬ ((2 : Int32) < 0 ∨ cl1118.slots.size ≤ ((2 : Int32)).toNatClampNeg) := inb_of S1118 ⟨by decide, by decide⟩
   obtain ⟨T1118, h1118, X1118, e1118, W1118, st1118⟩ := stJ X1116 hx hZ e1116 Ar1118 (j := (2 : Int32)) hin1118 (g := (fr_add2 m b p1 q1 379 (.val (.int (2 : Int32))) .unset [(.long q1), (.int (2 : Int32)), (.ref ln)])) rfl rfl (hb hby d7_379)
   have V1119 : Arv Z h1118 ln kl .long (8 : Int32) [(.long m0), (.long m1), (.long q1), (.long (0 : Int64)), (.long (0 : Int64)), (.long (0 : Int64)), (.long (0 : Int64)), (.long (0 : Int64))] (.long (0 : Int64)) := Arv.set Ar1118 q1118 S1118 N1118 H1118 G1118 rfl W1118 2 rfl (oLe rfl)
   clear hin1118 G1118 H1118 N1118 S1118 q1118 Ar1118 cl1118 V1115
   have N1120 := Fr.snoc X1118 Nq1113 gl
   obtain ⟨Lh1121, Xh1121, Nh1121⟩ := oHd 0 0 X1118 N1120 rfl rfl
   refine ownBy st1118 ?_
   clear st1118
   show ownG p.tables e below _ (T1118.setTop (fr_add2 m b p1 q1 380 (.val (.int (2 : Int32))) .unset []))
   refine ownBy (A := T1118.setTop (fr_add2 m b p1 q1 386 (.val (.int (2 : Int32))) (.val (.int (0 : Int32))) [(.ref b), (.int (0 : Int32))])) (fun t kt => ?_) ?_
   ·refine XS.iconst Xh1121.here hx rfl (hb hby d7_380) ?_
    refine XS.istore Xh1121.here hx rfl (hb hby d7_381) rfl (l' := #[.val (.ref b), .val (.int p1), .val .null, .val .null, .val (.long q1), .second, .val (.int (2 : Int32)), .val (.int (0 : Int32)), .unset]) rfl ?_
    refine XS.iload Xh1121.here hx rfl (hb hby d7_383) rfl ?_
    show Steps p.tables e below (T1118.setTop (fr_add2 m b p1 q1 385 (.val (.int (2 : Int32))) (.val (.int (0 : Int32))) [(.int (0 : Int32))])) t
    refine XS.aloadN Xh1121.here hx rfl (hb hby d7_385) rfl rfl ?_
    exact kt
   have f1123 := ((((((Fn.keep K1083 (ninS ne1059 nin0)).keep K1090 (ninS ne1060 nin0)).other W1096 (Or.inl ne1059)).other W1103 (Or.inl ne1060)).keep K1113 (ninS ne1062 nin0)).other W1118 (Or.inl ne1062))
   refine own_getF Xh1121 hx hZ hown (host := "") (Or.inl (Wd57 hw)) Via.refl e1118 f1123 (hb hby d7_386) (fun T1122 X1122 e1122 => ?_)
   have f1124 := ((((((An.keep K1083 (ninS (Ne.symm ne1064) nin0)).keep K1090 (ninS (Ne.symm ne1066) nin0)).other W1096 (Ne.symm ne1064)).other W1103 (Ne.symm ne1066)).keep K1113 (ninS ne1068 nin0)).other W1118 ne1068)
   obtain ⟨cl1125, Ar1125, -, S1125, N1125, -, -⟩ := id f1124
   have st1125 := X1122.arraylength hx (by rw [e1122]; exact Ar1125.1) (State.isArrayOf_alike hZ.alike Ar1125.2.1) (g := (fr_add2 m b p1 q1 389 (.val (.int (2 : Int32))) (.val (.int (0 : Int32))) [(.ref nn), (.int (0 : Int32))])) rfl rfl (hb hby d7_389)
   rw [len_of S1125 N1125] at st1125
   refine ownBy st1125 ?_
   show ownG p.tables e below _ (T1122.setTop (fr_add2 m b p1 q1 390 (.val (.int (2 : Int32))) (.val (.int (0 : Int32))) [(.int (0 : Int32)), (.int (0 : Int32))]))
   refine ownBy (A := T1122.setTop (fr_add2 m b p1 q1 463 (.val (.int (2 : Int32))) (.val (.int (0 : Int32))) [(.ref b), (.ref b)])) (fun t kt => ?_) ?_
   ·refine XS.icmpYes X1122.here hx rfl (pc0 := 390) (pc' := 461) rfl (hb hby d7_390) rfl (flt ((by decide) : ¬ ((0 : Int32) < (0 : Int32)))).2.1 (by decide) (by decide) ?_
    refine XS.aloadN X1122.here hx rfl (hb hby d7_461) rfl rfl ?_
    refine XS.dup X1122.here hx rfl (hb hby d7_462) rfl rfl ?_
    exact kt
   have f1127 := ((f1112.keep K1113 (ninS ne1062 nin0)).other W1118 (Or.inl ne1062))
   refine own_getF X1122 hx hZ hown (host := "") (Or.inl (Wd64 hw)) Via.refl e1122 f1127 (hb hby d7_463) (fun T1126 X1126 e1126 => ?_)
   refine ownBy (A := T1126.setTop (fr_add2 m b p1 q1 468 (.val (.int (2 : Int32))) (.val (.int (0 : Int32))) [(.int (3 : Int32)), (.ref b)])) (fun t kt => ?_) ?_
   ·refine XS.iconst X1126.here hx rfl (hb hby d7_466) ?_
    refine XS.iadd X1126.here hx rfl (hb hby d7_467) rfl ?_
    exact kt
   have f1129 := ((((((E1.keep K1083).keep K1090).wr W1096).wr W1103).keep K1113).wr W1118)
   obtain ⟨T1128, h1128, X1128, e1128, W1128, st1128⟩ := putF X1126 hx hZ hown (host := "") (Or.inl (Wd64 hw)) Via.refl e1126 f1127 f1129 (Or.inl (Wd65 hw)) (Wd3 hw) (ty := .int) (by decide) rfl rfl (g := (fr_add2 m b p1 q1 468 (.val (.int (2 : Int32))) (.val (.int (0 : Int32))) [(.int (3 : Int32)), (.ref b)])) rfl rfl (hb hby d7_468)
   have F1130 := f1127.same W1128
   have N1131 := Fr.snoc X1128 Nh1121 gb
   obtain ⟨Lh1132, Xh1132, Nh1132⟩ := oHd 0 0 X1128 N1131 rfl rfl
   refine ownBy st1128 ?_
   clear st1128
   show ownG p.tables e below _ (T1128.setTop (fr_add2 m b p1 q1 471 (.val (.int (2 : Int32))) (.val (.int (0 : Int32))) []))
   have f1133 := (V1119.other W1128 (Ne.symm ne1062))
   have f1135 := (f1129.wr W1128)
   have f1136 := (((((f1094.other W1096 (Or.inl ne1059)).other W1103 (Or.inl ne1060)).keep K1113 (ninS ne1062 nin0)).other W1118 (Or.inl ne1062)).other W1128 (Or.inr (slot_ne (Or.inl (Wd36 hw)) (Or.inl (Wd65 hw)) (by decide) (t := (.array .int)) (t' := .int) (by decide) (by decide))))
   have f1137 := ((((f1101.other W1103 (Or.inl ne1060)).keep K1113 (ninS ne1062 nin0)).other W1118 (Or.inl ne1062)).other W1128 (Or.inr (slot_ne (Or.inl (Wd40 hw)) (Or.inl (Wd65 hw)) (by decide) (t := (.array (.object "java/math/BigDecimal"))) (t' := .int) (by decide) (by decide))))
   have f1138 := (f1123.other W1128 (Or.inr (slot_ne (Or.inr (Wd58 hw)) (Or.inl (Wd65 hw)) (by decide) (t := (.array (.array .long))) (t' := .int) (by decide) (by decide))))
   have f1139 := (((((((Ff.keep K1083 (ninS ne1059 nin0)).keep K1090 (ninS ne1060 nin0)).other W1096 (Or.inl ne1059)).other W1103 (Or.inl ne1060)).keep K1113 (ninS ne1062 nin0)).other W1118 (Or.inl ne1062)).other W1128 (Or.inr (slot_ne (Or.inl (Wd67 hw)) (Or.inl (Wd65 hw)) (by decide) (t := .long) (t' := .int) (by decide) (by decide))))
   have f1140 := ((f1117.other W1118 (Or.inl ne1062)).other W1128 (Or.inr (slot_ne (Or.inl (Wd73 hw)) (Or.inl (Wd65 hw)) (by decide) (t := (.array .long)) (t' := .int) (by decide) (by decide))))
   have f1141 := ((((V1097.other W1103 ne1063).keep K1113 (ninS ne1065 nin0)).other W1118 ne1065).other W1128 (Ne.symm ne1059))
   have f1142 := (((V1104.keep K1113 (ninS ne1067 nin0)).other W1118 ne1067).other W1128 (Ne.symm ne1060))
   have f1143 := (f1124.other W1128 (Ne.symm ne1061))
   have f1144 := (Nat.le_trans (Nat.le_trans (Nat.le_trans (Nat.le_trans (Nat.le_trans (Nat.le_trans (Nat.le_trans (Nat.le_refl h0.size) K1083.1) K1090.1) (Keep.of_wr W1096).1) (Keep.of_wr W1103).1) K1113.1) (Keep.of_wr W1118).1) (Keep.of_wr W1128).1)
   refine ownRet Xh1132 Bd.notSynchronized (v := none) (fun _ => rfl) ?_ (oLe rfl) (oLe rfl) (fun fs hr => Xh1132.returnOut hx Bd.returns (hb hby d7_471) hr)
   show (Q_add2 Z b y hh nn ky kh kn z0 z1 m0 m1 f1 lv p1 q1 h0 n0) (none) T1128.heap _
   rw [e1128]
   have V1134 := f1133
   exact ⟨rfl, Nh1132, f1144, z0, z1, p1, m0, m1, q1, f1, (.ref ln), hs0, hc1074, Or.inr (Or.inr (⟨rfl, rfl, rfl, rfl, rfl, rfl⟩)), f1135, f1136, f1137, f1138, F1130, f1139, f1140, f1141, f1142, f1143, Or.inr ⟨ln, kl, rfl, gl, V1134⟩⟩
  ·skip
   refine ownBy (A := T1072.setTop (fr_add2 m b p1 q1 29 (.val (.int (2 : Int32))) .unset [(.ref b)])) (fun t kt => ?_) ?_
   ·refine XS.icmpNo X1072.here hx rfl (hb hby d7_25) rfl (flt hc1074).1 ?_
    refine XS.aloadN X1072.here hx rfl (hb hby d7_28) rfl rfl ?_
    exact kt
   refine own_getF X1072 hx hZ hown (host := "") (Or.inl (Wd35 hw)) Via.refl e1072 Fy (hb hby d7_29) (fun T1145 X1145 e1145 => ?_)
   refine ownBy (A := T1145.setTop (fr_add2 m b p1 q1 34 (.val (.int (2 : Int32))) .unset [(.ref b), (.int (0 : Int32)), (.ref y)])) (fun t kt => ?_) ?_
   ·refine XS.iconst X1145.here hx rfl (hb hby d7_32) ?_
    refine XS.aloadN X1145.here hx rfl (hb hby d7_33) rfl rfl ?_
    exact kt
   refine own_getF X1145 hx hZ hown (host := "") (Or.inl (Wd64 hw)) Via.refl e1145 Fs (hb hby d7_34) (fun T1146 X1146 e1146 => ?_)
   refine ownBy (A := T1146.setTop (fr_add2 m b p1 q1 38 (.val (.int (2 : Int32))) .unset [(.int p1), (.int (2 : Int32)), (.int (0 : Int32)), (.ref y)])) (fun t kt => ?_) ?_
   ·refine XS.iloadN X1146.here hx rfl (hb hby d7_37) rfl ?_
    exact kt
   obtain ⟨vv1147, _, ⟨T1147, L1147, k1147, n1147⟩, -, X1147, ⟨Lc1147, hQ1147, l1147, y1147, z1147⟩, st1147⟩ := Jvm.LawKit.callS X1146 hx (y := (⟨"java/util/Arrays", "binarySearch", "([IIII)I"⟩ : MethodName)) hown (mvT hZ (Wd79 hw)) (mvT hZ (Wd80 hw)) (mvT hZ (Wd81 hw)) (mvT hZ (Wd82 hw)) (by decide) (backOf (W := 0) (c_bs2 l Z a0 hw [] y ky z0 z1 p1 h0 n0 Z0 Ay) hZ (Wd82 hw) (Wd81 hw) (by decide) (by decide)) (g := (fr_add2 m b p1 q1 38 (.val (.int (2 : Int32))) .unset [(.int p1), (.int (2 : Int32)), (.int (0 : Int32)), (.ref y)])) rfl (by rw [hml]; rfl) (argsL := [(.ref y), (.int (0 : Int32)), (.int (2 : Int32)), (.int p1)]) (rest := []) (lenOf pd_11 rfl) rfl (by show 2 * 0 + _ ≤ _; exact Nat.le_of_eq rfl) (hb hby d7_38) (fun _ _ => ⟨rfl, e1146, (by decide : 0 + 0 ≤ _), (by decide : 0 + 0 ≤ _)⟩)
   dsimp only [Pt.U, Pt.locs, Pt.cells, Pt.slots] at X1147 l1147 y1147 z1147 st1147 hQ1147
   subst l1147 y1147 z1147
   obtain ⟨r1147, rfl, Nq1147, Eq1147, hB1147⟩ := hQ1147
   rcases hB1147 with ⟨hb1147_0_0, hb1147_0_1, rfl⟩ | ⟨hb1147_1_0, hb1147_1_1, hb1147_1_2, rfl⟩ | ⟨hb1147_2_0, hb1147_2_1, hb1147_2_2, rfl⟩ | ⟨hb1147_3_0, hb1147_3_1, rfl⟩ | ⟨hb1147_4_0, hb1147_4_1, rfl⟩
   ·skip
    exfalso
    simp only [Int32.lt_iff_toInt_lt, ← Int32.toInt_inj] at hb1147_0_0 hb1147_0_1 hc1074 hs0
    omega
   ·skip
    have N1148 := Fr.app N0 Nq1147
    obtain ⟨Lh1149, Xh1149, Nh1149⟩ := oHd 0 0 X1147 N1148 rfl rfl
    refine ownBy st1147 ?_
    clear st1147
    show ownG p.tables e below _ (T1147.setTop (fr_add2 m b p1 q1 41 (.val (.int (2 : Int32))) .unset [(.int (-2 : Int32))]))
    refine ownBy (A := T1147.setTop (fr_add2 m b p1 q1 70 (.val (.int (1 : Int32))) .unset [(.ref b)])) (fun t kt => ?_) ?_
    ·refine XS.istore Xh1149.here hx rfl (hb hby d7_41) rfl (l' := #[.val (.ref b), .val (.int p1), .val .null, .val .null, .val (.long q1), .second, .val (.int (-2 : Int32)), .unset, .unset]) rfl ?_
     refine XS.iload Xh1149.here hx rfl (hb hby d7_43) rfl ?_
     refine XS.ifYes Xh1149.here hx rfl (pc0 := 45) (pc' := 62) rfl (hb hby d7_45) rfl ((if0 _ _).trans (tlt ((by decide) : (-2 : Int32) < (0 : Int32))).1) (by decide) (by decide) ?_
     show Steps p.tables e below (T1147.setTop (fr_add2 m b p1 q1 62 (.val (.int (-2 : Int32))) .unset [])) t
     refine XS.iload Xh1149.here hx rfl (hb hby d7_62) rfl ?_
     refine XS.ineg Xh1149.here hx rfl (hb hby d7_64) rfl ?_
     refine XS.iconst Xh1149.here hx rfl (hb hby d7_65) ?_
     show Steps p.tables e below (T1147.setTop (fr_add2 m b p1 q1 66 (.val (.int (-2 : Int32))) .unset [(.int (1 : Int32)), (.int (2 : Int32))])) t
     refine XS.isub Xh1149.here hx rfl (hb hby d7_66) rfl ?_
     refine XS.istore Xh1149.here hx rfl (hb hby d7_67) rfl (l' := #[.val (.ref b), .val (.int p1), .val .null, .val .null, .val (.long q1), .second, .val (.int (1 : Int32)), .unset, .unset]) rfl ?_
     refine XS.aloadN Xh1149.here hx rfl (hb hby d7_69) rfl rfl ?_
     exact kt
    refine own_getF Xh1149 hx hZ hown (host := "") (Or.inl (Wd64 hw)) Via.refl Eq1147 Fs (hb hby d7_70) (fun T1150 X1150 e1150 => ?_)
    refine ownBy (A := T1150.setTop (fr_add2 m b p1 q1 86 (.val (.int (1 : Int32))) .unset [(.ref b)])) (fun t kt => ?_) ?_
    ·refine XS.ifYes X1150.here hx rfl (pc0 := 73) (pc' := 85) rfl (hb hby d7_73) rfl ((if0 _ _).trans (feq ((by decide) : ¬ ((2 : Int32) = (0 : Int32)))).2) (by decide) (by decide) ?_
     refine XS.aloadN X1150.here hx rfl (hb hby d7_85) rfl rfl ?_
     exact kt
    refine own_getF X1150 hx hZ hown (host := "") (Or.inl (Wd72 hw)) Via.refl e1150 Fl (hb hby d7_86) (fun T1151 X1151 e1151 => ?_)
    refine ownBy (A := T1151.setTop (fr_add2 m b p1 q1 162 (.val (.int (1 : Int32))) .unset [(.ref b)])) (fun t kt => ?_) ?_
    ·refine XS.ifnonnullYes X1151.here hx rfl (pc0 := 89) (pc' := 161) rfl (hb hby d7_89) rfl (by decide) (by decide) ?_
     refine XS.aloadN X1151.here hx rfl (hb hby d7_161) rfl rfl ?_
     exact kt
    refine own_getF X1151 hx hZ hown (host := "") (Or.inl (Wd64 hw)) Via.refl e1151 Fs (hb hby d7_162) (fun T1152 X1152 e1152 => ?_)
    refine ownBy (A := T1152.setTop (fr_add2 m b p1 q1 166 (.val (.int (1 : Int32))) .unset [(.ref b), (.int (2 : Int32))])) (fun t kt => ?_) ?_
    ·refine XS.aloadN X1152.here hx rfl (hb hby d7_165) rfl rfl ?_
     exact kt
    refine own_getF X1152 hx hZ hown (host := "") (Or.inl (Wd35 hw)) Via.refl e1152 Fy (hb hby d7_166) (fun T1153 X1153 e1153 => ?_)
    obtain ⟨cl1154, Ar1154, -, S1154, N1154, -, -⟩ := id Ay
    have st1154 := X1153.arraylength hx (by rw [e1153]; exact Ar1154.1) (State.isArrayOf_alike hZ.alike Ar1154.2.1) (g := (fr_add2 m b p1 q1 169 (.val (.int (1 : Int32))) .unset [(.ref y), (.int (2 : Int32))])) rfl rfl (hb hby d7_169)
    rw [len_of S1154 N1154] at st1154
    refine ownBy st1154 ?_
    show ownG p.tables e below _ (T1153.setTop (fr_add2 m b p1 q1 170 (.val (.int (1 : Int32))) .unset [(.int (8 : Int32)), (.int (2 : Int32))]))
    refine ownBy (A := T1153.setTop (fr_add2 m b p1 q1 277 (.val (.int (1 : Int32))) .unset [(.ref b)])) (fun t kt => ?_) ?_
    ·refine XS.icmpYes X1153.here hx rfl (pc0 := 170) (pc' := 276) rfl (hb hby d7_170) rfl (feq ((by decide) : ¬ ((2 : Int32) = (8 : Int32)))).2 (by decide) (by decide) ?_
     refine XS.aloadN X1153.here hx rfl (hb hby d7_276) rfl rfl ?_
     exact kt
    refine own_getF X1153 hx hZ hown (host := "") (Or.inl (Wd35 hw)) Via.refl e1153 Fy (hb hby d7_277) (fun T1155 X1155 e1155 => ?_)
    refine ownBy (A := T1155.setTop (fr_add2 m b p1 q1 283 (.val (.int (1 : Int32))) .unset [(.ref b), (.int (1 : Int32)), (.ref y)])) (fun t kt => ?_) ?_
    ·refine XS.iload X1155.here hx rfl (hb hby d7_280) rfl ?_
     refine XS.aloadN X1155.here hx rfl (hb hby d7_282) rfl rfl ?_
     exact kt
    refine own_getF X1155 hx hZ hown (host := "") (Or.inl (Wd35 hw)) Via.refl e1155 Fy (hb hby d7_283) (fun T1156 X1156 e1156 => ?_)
    refine ownBy (A := T1156.setTop (fr_add2 m b p1 q1 291 (.val (.int (1 : Int32))) .unset [(.ref b), (.int (2 : Int32)), (.ref y), (.int (1 : Int32)), (.ref y)])) (fun t kt => ?_) ?_
    ·refine XS.iload X1156.here hx rfl (hb hby d7_286) rfl ?_
     refine XS.iconst X1156.here hx rfl (hb hby d7_288) ?_
     refine XS.iadd X1156.here hx rfl (hb hby d7_289) rfl ?_
     show Steps p.tables e below (T1156.setTop (fr_add2 m b p1 q1 290 (.val (.int (1 : Int32))) .unset [(.int (2 : Int32)), (.ref y), (.int (1 : Int32)), (.ref y)])) t
     refine XS.aloadN X1156.here hx rfl (hb hby d7_290) rfl rfl ?_
     exact kt
    refine own_getF X1156 hx hZ hown (host := "") (Or.inl (Wd64 hw)) Via.refl e1156 Fs (hb hby d7_291) (fun T1157 X1157 e1157 => ?_)
    refine ownBy (A := T1157.setTop (fr_add2 m b p1 q1 297 (.val (.int (1 : Int32))) .unset [(.int (1 : Int32)), (.int (2 : Int32)), (.ref y), (.int (1 : Int32)), (.ref y)])) (fun t kt => ?_) ?_
    ·refine XS.iload X1157.here hx rfl (hb hby d7_294) rfl ?_
     refine XS.isub X1157.here hx rfl (hb hby d7_296) rfl ?_
     exact kt
    obtain ⟨T1158, h1158, L1158, X1158, e1158, Nq1158, K1158, A1158, st1158⟩ := cpA X1157 hx hZ hown (Wd68 hw) (Wd71 hw) (Wd69 hw) (Wd70 hw) e1157 Ay Ay (us := [(.int z1)]) (Or.inl ⟨rfl, rfl⟩) (sp := (1 : Int32)) (dp := (2 : Int32)) (nn := (1 : Int32)) (by decide) (by decide) (by decide) (by decide) (by decide) rfl (oLe rfl) Nh1149 gy (g := (fr_add2 m b p1 q1 297 (.val (.int (1 : Int32))) .unset [(.int (1 : Int32)), (.int (2 : Int32)), (.ref y), (.int (1 : Int32)), (.ref y)])) rfl (by rw [hml]; rfl) rfl (hb hby d7_297) (by decide) (W := 0) (by show 2 * 0 + _ ≤ _; exact Nat.le_of_eq rfl) (by decide)
    have V1159 : Arv Z h1158 y ky .int (8 : Int32) [(.int z0), (.int z1), (.int z1), (.int (0 : Int32)), (.int (0 : Int32)), (.int (0 : Int32)), (.int (0 : Int32)), (.int (0 : Int32))] (.int (0 : Int32)) := A1158
    refine ownBy st1158 ?_
    clear st1158
    show ownG p.tables e below _ (T1158.setTop (fr_add2 m b p1 q1 300 (.val (.int (1 : Int32))) .unset []))
    refine ownBy (A := T1158.setTop (fr_add2 m b p1 q1 301 (.val (.int (1 : Int32))) .unset [(.ref b)])) (fun t kt => ?_) ?_
    ·refine XS.aloadN X1158.here hx rfl (hb hby d7_300) rfl rfl ?_
     exact kt
    have f1161 := (Fh.keep K1158 (ninS ne1059 nin0))
    refine own_getF X1158 hx hZ hown (host := "") (Or.inl (Wd39 hw)) Via.refl e1158 f1161 (hb hby d7_301) (fun T1160 X1160 e1160 => ?_)
    refine ownBy (A := T1160.setTop (fr_add2 m b p1 q1 307 (.val (.int (1 : Int32))) .unset [(.ref b), (.int (1 : Int32)), (.ref hh)])) (fun t kt => ?_) ?_
    ·refine XS.iload X1160.here hx rfl (hb hby d7_304) rfl ?_
     refine XS.aloadN X1160.here hx rfl (hb hby d7_306) rfl rfl ?_
     exact kt
    refine own_getF X1160 hx hZ hown (host := "") (Or.inl (Wd39 hw)) Via.refl e1160 f1161 (hb hby d7_307) (fun T1162 X1162 e1162 => ?_)
    refine ownBy (A := T1162.setTop (fr_add2 m b p1 q1 315 (.val (.int (1 : Int32))) .unset [(.ref b), (.int (2 : Int32)), (.ref hh), (.int (1 : Int32)), (.ref hh)])) (fun t kt => ?_) ?_
    ·refine XS.iload X1162.here hx rfl (hb hby d7_310) rfl ?_
     refine XS.iconst X1162.here hx rfl (hb hby d7_312) ?_
     refine XS.iadd X1162.here hx rfl (hb hby d7_313) rfl ?_
     show Steps p.tables e below (T1162.setTop (fr_add2 m b p1 q1 314 (.val (.int (1 : Int32))) .unset [(.int (2 : Int32)), (.ref hh), (.int (1 : Int32)), (.ref hh)])) t
     refine XS.aloadN X1162.here hx rfl (hb hby d7_314) rfl rfl ?_
     exact kt
    have f1164 := (Fs.keep K1158 (ninS ne1059 nin0))
    refine own_getF X1162 hx hZ hown (host := "") (Or.inl (Wd64 hw)) Via.refl e1162 f1164 (hb hby d7_315) (fun T1163 X1163 e1163 => ?_)
    refine ownBy (A := T1163.setTop (fr_add2 m b p1 q1 321 (.val (.int (1 : Int32))) .unset [(.int (1 : Int32)), (.int (2 : Int32)), (.ref hh), (.int (1 : Int32)), (.ref hh)])) (fun t kt => ?_) ?_
    ·refine XS.iload X1163.here hx rfl (hb hby d7_318) rfl ?_
     refine XS.isub X1163.here hx rfl (hb hby d7_320) rfl ?_
     exact kt
    have f1166 := (Ah.keep K1158 (ninS (Ne.symm ne1063) nin0))
    obtain ⟨T1165, h1165, L1165, X1165, e1165, Nq1165, K1165, A1165, st1165⟩ := cpA X1163 hx hZ hown (Wd68 hw) (Wd71 hw) (Wd69 hw) (Wd70 hw) e1163 f1166 f1166 (us := [.null]) (Or.inr ⟨rfl, rfl, ⟨Or.inl rfl, trivial⟩⟩) (sp := (1 : Int32)) (dp := (2 : Int32)) (nn := (1 : Int32)) (by decide) (by decide) (by decide) (by decide) (by decide) rfl (oLe rfl) Nq1158 gh (g := (fr_add2 m b p1 q1 321 (.val (.int (1 : Int32))) .unset [(.int (1 : Int32)), (.int (2 : Int32)), (.ref hh), (.int (1 : Int32)), (.ref hh)])) rfl (by rw [hml]; rfl) rfl (hb hby d7_321) (by decide) (W := 0) (by show 2 * 0 + _ ≤ _; exact Nat.le_of_eq rfl) (by decide)
    have V1167 : Arv Z h1165 hh kh (.object "java/math/BigDecimal") (8 : Int32) [.null, .null, .null, .null, .null, .null, .null, .null] .null := A1165
    refine ownBy st1165 ?_
    clear st1165
    show ownG p.tables e below _ (T1165.setTop (fr_add2 m b p1 q1 324 (.val (.int (1 : Int32))) .unset []))
    refine ownBy (A := T1165.setTop (fr_add2 m b p1 q1 325 (.val (.int (1 : Int32))) .unset [(.ref b)])) (fun t kt => ?_) ?_
    ·refine XS.aloadN X1165.here hx rfl (hb hby d7_324) rfl rfl ?_
     exact kt
    have f1169 := ((Fy.keep K1158 (ninS ne1059 nin0)).keep K1165 (ninS ne1060 nin0))
    refine own_getF X1165 hx hZ hown (host := "") (Or.inl (Wd35 hw)) Via.refl e1165 f1169 (hb hby d7_325) (fun T1168 X1168 e1168 => ?_)
    refine ownBy (A := T1168.setTop (fr_add2 m b p1 q1 331 (.val (.int (1 : Int32))) .unset [(.int p1), (.int (1 : Int32)), (.ref y)])) (fun t kt => ?_) ?_
    ·refine XS.iload X1168.here hx rfl (hb hby d7_328) rfl ?_
     refine XS.iloadN X1168.here hx rfl (hb hby d7_330) rfl ?_
     exact kt
    have f1170 := (V1159.keep K1165 (ninS ne1063 nin0))
    obtain ⟨cl1171, Ar1171, q1171, S1171, N1171, H1171, G1171⟩ := id f1170
    have hin1171 : ¬ ((1 : Int32) < 0 ∨ cl1171.slots.size ≤ ((1 : Int32)).toNatClampNeg) := inb_of S1171 ⟨by decide, by decide⟩
    obtain ⟨T1171, h1171, X1171, e1171, W1171, st1171⟩ := stI X1168 hx hZ e1168 Ar1171 (j := (1 : Int32)) hin1171 (g := (fr_add2 m b p1 q1 331 (.val (.int (1 : Int32))) .unset [(.int p1), (.int (1 : Int32)), (.ref y)])) rfl rfl (hb hby d7_331)
    have V1172 : Arv Z h1171 y ky .int (8 : Int32) [(.int z0), (.int p1), (.int z1), (.int (0 : Int32)), (.int (0 : Int32)), (.int (0 : Int32)), (.int (0 : Int32)), (.int (0 : Int32))] (.int (0 : Int32)) := Arv.set Ar1171 q1171 S1171 N1171 H1171 G1171 rfl W1171 1 rfl (oLe rfl)
    clear hin1171 G1171 H1171 N1171 S1171 q1171 Ar1171 cl1171 f1170
    have N1173 := Fr.snoc X1171 Nq1165 gy
    obtain ⟨Lh1174, Xh1174, Nh1174⟩ := oHd 0 0 X1171 N1173 rfl rfl
    refine ownBy st1171 ?_
    clear st1171
    show ownG p.tables e below _ (T1171.setTop (fr_add2 m b p1 q1 332 (.val (.int (1 : Int32))) .unset []))
    refine ownBy (A := T1171.setTop (fr_add2 m b p1 q1 333 (.val (.int (1 : Int32))) .unset [(.ref b)])) (fun t kt => ?_) ?_
    ·refine XS.aloadN Xh1174.here hx rfl (hb hby d7_332) rfl rfl ?_
     exact kt
    have f1176 := ((f1161.keep K1165 (ninS ne1060 nin0)).other W1171 (Or.inl ne1059))
    refine own_getF Xh1174 hx hZ hown (host := "") (Or.inl (Wd39 hw)) Via.refl e1171 f1176 (hb hby d7_333) (fun T1175 X1175 e1175 => ?_)
    refine ownBy (A := T1175.setTop (fr_add2 m b p1 q1 339 (.val (.int (1 : Int32))) .unset [.null, (.int (1 : Int32)), (.ref hh)])) (fun t kt => ?_) ?_
    ·refine XS.iload X1175.here hx rfl (hb hby d7_336) rfl ?_
     refine XS.aloadN X1175.here hx rfl (hb hby d7_338) rfl rfl ?_
     exact kt
    have f1177 := (V1167.other W1171 (Ne.symm ne1063))
    obtain ⟨cl1178, Ar1178, q1178, S1178, N1178, H1178, G1178⟩ := id f1177
    have hin1178 : ¬ ((1 : Int32) < 0 ∨ cl1178.slots.size ≤ ((1 : Int32)).toNatClampNeg) := inb_of S1178 ⟨by decide, by decide⟩
    obtain ⟨T1178, h1178, X1178, e1178, W1178, st1178⟩ := stR X1175 hx hZ e1175 Ar1178 (j := (1 : Int32)) hin1178 rfl (Or.inl rfl) (g := (fr_add2 m b p1 q1 339 (.val (.int (1 : Int32))) .unset [.null, (.int (1 : Int32)), (.ref hh)])) rfl rfl (hb hby d7_339)
    have V1179 : Arv Z h1178 hh kh (.object "java/math/BigDecimal") (8 : Int32) [.null, .null, .null, .null, .null, .null, .null, .null] .null := Arv.set Ar1178 q1178 S1178 N1178 H1178 G1178 rfl W1178 1 rfl (oLe rfl)
    have N1180 := Fr.snoc X1178 Nh1174 gh
    obtain ⟨Lh1181, Xh1181, Nh1181⟩ := oHd 0 0 X1178 N1180 rfl rfl
    refine ownBy st1178 ?_
    clear st1178
    show ownG p.tables e below _ (T1178.setTop (fr_add2 m b p1 q1 340 (.val (.int (1 : Int32))) .unset []))
    refine ownBy (A := T1178.setTop (fr_add2 m b p1 q1 341 (.val (.int (1 : Int32))) .unset [(.ref b)])) (fun t kt => ?_) ?_
    ·refine XS.aloadN Xh1181.here hx rfl (hb hby d7_340) rfl rfl ?_
     exact kt
    have f1183 := ((((Fl.keep K1158 (ninS ne1059 nin0)).keep K1165 (ninS ne1060 nin0)).other W1171 (Or.inl ne1059)).other W1178 (Or.inl ne1060))
    refine own_getF Xh1181 hx hZ hown (host := "") (Or.inl (Wd72 hw)) Via.refl e1178 f1183 (hb hby d7_341) (fun T1182 X1182 e1182 => ?_)
    refine ownBy (A := T1182.setTop (fr_add2 m b p1 q1 348 (.val (.int (1 : Int32))) .unset [(.ref b)])) (fun t kt => ?_) ?_
    ·refine XS.ifnullNo X1182.here hx rfl (hb hby d7_344) rfl ?_
     refine XS.aloadN X1182.here hx rfl (hb hby d7_347) rfl rfl ?_
     exact kt
    refine own_getF X1182 hx hZ hown (host := "") (Or.inl (Wd72 hw)) Via.refl e1182 f1183 (hb hby d7_348) (fun T1184 X1184 e1184 => ?_)
    refine ownBy (A := T1184.setTop (fr_add2 m b p1 q1 354 (.val (.int (1 : Int32))) .unset [(.ref b), (.int (1 : Int32)), (.ref ln)])) (fun t kt => ?_) ?_
    ·refine XS.iload X1184.here hx rfl (hb hby d7_351) rfl ?_
     refine XS.aloadN X1184.here hx rfl (hb hby d7_353) rfl rfl ?_
     exact kt
    refine own_getF X1184 hx hZ hown (host := "") (Or.inl (Wd72 hw)) Via.refl e1184 f1183 (hb hby d7_354) (fun T1185 X1185 e1185 => ?_)
    refine ownBy (A := T1185.setTop (fr_add2 m b p1 q1 362 (.val (.int (1 : Int32))) .unset [(.ref b), (.int (2 : Int32)), (.ref ln), (.int (1 : Int32)), (.ref ln)])) (fun t kt => ?_) ?_
    ·refine XS.iload X1185.here hx rfl (hb hby d7_357) rfl ?_
     refine XS.iconst X1185.here hx rfl (hb hby d7_359) ?_
     refine XS.iadd X1185.here hx rfl (hb hby d7_360) rfl ?_
     show Steps p.tables e below (T1185.setTop (fr_add2 m b p1 q1 361 (.val (.int (1 : Int32))) .unset [(.int (2 : Int32)), (.ref ln), (.int (1 : Int32)), (.ref ln)])) t
     refine XS.aloadN X1185.here hx rfl (hb hby d7_361) rfl rfl ?_
     exact kt
    have f1187 := (((f1164.keep K1165 (ninS ne1060 nin0)).other W1171 (Or.inl ne1059)).other W1178 (Or.inl ne1060))
    refine own_getF X1185 hx hZ hown (host := "") (Or.inl (Wd64 hw)) Via.refl e1185 f1187 (hb hby d7_362) (fun T1186 X1186 e1186 => ?_)
    refine ownBy (A := T1186.setTop (fr_add2 m b p1 q1 368 (.val (.int (1 : Int32))) .unset [(.int (1 : Int32)), (.int (2 : Int32)), (.ref ln), (.int (1 : Int32)), (.ref ln)])) (fun t kt => ?_) ?_
    ·refine XS.iload X1186.here hx rfl (hb hby d7_365) rfl ?_
     refine XS.isub X1186.here hx rfl (hb hby d7_367) rfl ?_
     exact kt
    have f1189 := ((((Al.keep K1158 (ninS (Ne.symm ne1065) nin0)).keep K1165 (ninS (Ne.symm ne1067) nin0)).other W1171 (Ne.symm ne1065)).other W1178 (Ne.symm ne1067))
    obtain ⟨T1188, h1188, L1188, X1188, e1188, Nq1188, K1188, A1188, st1188⟩ := cpA X1186 hx hZ hown (Wd68 hw) (Wd71 hw) (Wd69 hw) (Wd70 hw) e1186 f1189 f1189 (us := [(.long m1)]) (Or.inl ⟨rfl, rfl⟩) (sp := (1 : Int32)) (dp := (2 : Int32)) (nn := (1 : Int32)) (by decide) (by decide) (by decide) (by decide) (by decide) rfl (oLe rfl) Nh1181 gl (g := (fr_add2 m b p1 q1 368 (.val (.int (1 : Int32))) .unset [(.int (1 : Int32)), (.int (2 : Int32)), (.ref ln), (.int (1 : Int32)), (.ref ln)])) rfl (by rw [hml]; rfl) rfl (hb hby d7_368) (by decide) (W := 0) (by show 2 * 0 + _ ≤ _; exact Nat.le_of_eq rfl) (by decide)
    have V1190 : Arv Z h1188 ln kl .long (8 : Int32) [(.long m0), (.long m1), (.long m1), (.long (0 : Int64)), (.long (0 : Int64)), (.long (0 : Int64)), (.long (0 : Int64)), (.long (0 : Int64))] (.long (0 : Int64)) := A1188
    refine ownBy st1188 ?_
    clear st1188
    show ownG p.tables e below _ (T1188.setTop (fr_add2 m b p1 q1 371 (.val (.int (1 : Int32))) .unset []))
    refine ownBy (A := T1188.setTop (fr_add2 m b p1 q1 372 (.val (.int (1 : Int32))) .unset [(.ref b)])) (fun t kt => ?_) ?_
    ·refine XS.aloadN X1188.here hx rfl (hb hby d7_371) rfl rfl ?_
     exact kt
    have f1192 := (f1183.keep K1188 (ninS ne1062 nin0))
    refine own_getF X1188 hx hZ hown (host := "") (Or.inl (Wd72 hw)) Via.refl e1188 f1192 (hb hby d7_372) (fun T1191 X1191 e1191 => ?_)
    refine ownBy (A := T1191.setTop (fr_add2 m b p1 q1 379 (.val (.int (1 : Int32))) .unset [(.long q1), (.int (1 : Int32)), (.ref ln)])) (fun t kt => ?_) ?_
    ·refine XS.iload X1191.here hx rfl (hb hby d7_375) rfl ?_
     refine XS.lload X1191.here hx rfl (hb hby d7_377) rfl ?_
     exact kt
    obtain ⟨cl1193, Ar1193, q1193, S1193, N1193, H1193, G1193⟩ := id V1190
    have hin1193 : ¬ ((1 : Int32) < 0 ∨ cl1193.slots.size ≤ ((1 : Int32)).toNatClampNeg) := inb_of S1193 ⟨by decide, by decide⟩
    obtain ⟨T1193, h1193, X1193, e1193, W1193, st1193⟩ := stJ X1191 hx hZ e1191 Ar1193 (j := (1 : Int32)) hin1193 (g := (fr_add2 m b p1 q1 379 (.val (.int (1 : Int32))) .unset [(.long q1), (.int (1 : Int32)), (.ref ln)])) rfl rfl (hb hby d7_379)
    have V1194 : Arv Z h1193 ln kl .long (8 : Int32) [(.long m0), (.long q1), (.long m1), (.long (0 : Int64)), (.long (0 : Int64)), (.long (0 : Int64)), (.long (0 : Int64)), (.long (0 : Int64))] (.long (0 : Int64)) := Arv.set Ar1193 q1193 S1193 N1193 H1193 G1193 rfl W1193 1 rfl (oLe rfl)
    clear hin1193 G1193 H1193 N1193 S1193 q1193 Ar1193 cl1193 V1190
    have N1195 := Fr.snoc X1193 Nq1188 gl
    obtain ⟨Lh1196, Xh1196, Nh1196⟩ := oHd 0 0 X1193 N1195 rfl rfl
    refine ownBy st1193 ?_
    clear st1193
    show ownG p.tables e below _ (T1193.setTop (fr_add2 m b p1 q1 380 (.val (.int (1 : Int32))) .unset []))
    refine ownBy (A := T1193.setTop (fr_add2 m b p1 q1 386 (.val (.int (1 : Int32))) (.val (.int (0 : Int32))) [(.ref b), (.int (0 : Int32))])) (fun t kt => ?_) ?_
    ·refine XS.iconst Xh1196.here hx rfl (hb hby d7_380) ?_
     refine XS.istore Xh1196.here hx rfl (hb hby d7_381) rfl (l' := #[.val (.ref b), .val (.int p1), .val .null, .val .null, .val (.long q1), .second, .val (.int (1 : Int32)), .val (.int (0 : Int32)), .unset]) rfl ?_
     refine XS.iload Xh1196.here hx rfl (hb hby d7_383) rfl ?_
     show Steps p.tables e below (T1193.setTop (fr_add2 m b p1 q1 385 (.val (.int (1 : Int32))) (.val (.int (0 : Int32))) [(.int (0 : Int32))])) t
     refine XS.aloadN Xh1196.here hx rfl (hb hby d7_385) rfl rfl ?_
     exact kt
    have f1198 := ((((((Fn.keep K1158 (ninS ne1059 nin0)).keep K1165 (ninS ne1060 nin0)).other W1171 (Or.inl ne1059)).other W1178 (Or.inl ne1060)).keep K1188 (ninS ne1062 nin0)).other W1193 (Or.inl ne1062))
    refine own_getF Xh1196 hx hZ hown (host := "") (Or.inl (Wd57 hw)) Via.refl e1193 f1198 (hb hby d7_386) (fun T1197 X1197 e1197 => ?_)
    have f1199 := ((((((An.keep K1158 (ninS (Ne.symm ne1064) nin0)).keep K1165 (ninS (Ne.symm ne1066) nin0)).other W1171 (Ne.symm ne1064)).other W1178 (Ne.symm ne1066)).keep K1188 (ninS ne1068 nin0)).other W1193 ne1068)
    obtain ⟨cl1200, Ar1200, -, S1200, N1200, -, -⟩ := id f1199
    have st1200 := X1197.arraylength hx (by rw [e1197]; exact Ar1200.1) (State.isArrayOf_alike hZ.alike Ar1200.2.1) (g := (fr_add2 m b p1 q1 389 (.val (.int (1 : Int32))) (.val (.int (0 : Int32))) [(.ref nn), (.int (0 : Int32))])) rfl rfl (hb hby d7_389)
    rw [len_of S1200 N1200] at st1200
    refine ownBy st1200 ?_
    show ownG p.tables e below _ (T1197.setTop (fr_add2 m b p1 q1 390 (.val (.int (1 : Int32))) (.val (.int (0 : Int32))) [(.int (0 : Int32)), (.int (0 : Int32))]))
    refine ownBy (A := T1197.setTop (fr_add2 m b p1 q1 463 (.val (.int (1 : Int32))) (.val (.int (0 : Int32))) [(.ref b), (.ref b)])) (fun t kt => ?_) ?_
    ·refine XS.icmpYes X1197.here hx rfl (pc0 := 390) (pc' := 461) rfl (hb hby d7_390) rfl (flt ((by decide) : ¬ ((0 : Int32) < (0 : Int32)))).2.1 (by decide) (by decide) ?_
     refine XS.aloadN X1197.here hx rfl (hb hby d7_461) rfl rfl ?_
     refine XS.dup X1197.here hx rfl (hb hby d7_462) rfl rfl ?_
     exact kt
    have f1202 := ((f1187.keep K1188 (ninS ne1062 nin0)).other W1193 (Or.inl ne1062))
    refine own_getF X1197 hx hZ hown (host := "") (Or.inl (Wd64 hw)) Via.refl e1197 f1202 (hb hby d7_463) (fun T1201 X1201 e1201 => ?_)
    refine ownBy (A := T1201.setTop (fr_add2 m b p1 q1 468 (.val (.int (1 : Int32))) (.val (.int (0 : Int32))) [(.int (3 : Int32)), (.ref b)])) (fun t kt => ?_) ?_
    ·refine XS.iconst X1201.here hx rfl (hb hby d7_466) ?_
     refine XS.iadd X1201.here hx rfl (hb hby d7_467) rfl ?_
     exact kt
    have f1204 := ((((((E1.keep K1158).keep K1165).wr W1171).wr W1178).keep K1188).wr W1193)
    obtain ⟨T1203, h1203, X1203, e1203, W1203, st1203⟩ := putF X1201 hx hZ hown (host := "") (Or.inl (Wd64 hw)) Via.refl e1201 f1202 f1204 (Or.inl (Wd65 hw)) (Wd3 hw) (ty := .int) (by decide) rfl rfl (g := (fr_add2 m b p1 q1 468 (.val (.int (1 : Int32))) (.val (.int (0 : Int32))) [(.int (3 : Int32)), (.ref b)])) rfl rfl (hb hby d7_468)
    have F1205 := f1202.same W1203
    have N1206 := Fr.snoc X1203 Nh1196 gb
    obtain ⟨Lh1207, Xh1207, Nh1207⟩ := oHd 0 0 X1203 N1206 rfl rfl
    refine ownBy st1203 ?_
    clear st1203
    show ownG p.tables e below _ (T1203.setTop (fr_add2 m b p1 q1 471 (.val (.int (1 : Int32))) (.val (.int (0 : Int32))) []))
    have f1208 := (V1194.other W1203 (Ne.symm ne1062))
    have f1210 := (f1204.wr W1203)
    have f1211 := (((((f1169.other W1171 (Or.inl ne1059)).other W1178 (Or.inl ne1060)).keep K1188 (ninS ne1062 nin0)).other W1193 (Or.inl ne1062)).other W1203 (Or.inr (slot_ne (Or.inl (Wd36 hw)) (Or.inl (Wd65 hw)) (by decide) (t := (.array .int)) (t' := .int) (by decide) (by decide))))
    have f1212 := ((((f1176.other W1178 (Or.inl ne1060)).keep K1188 (ninS ne1062 nin0)).other W1193 (Or.inl ne1062)).other W1203 (Or.inr (slot_ne (Or.inl (Wd40 hw)) (Or.inl (Wd65 hw)) (by decide) (t := (.array (.object "java/math/BigDecimal"))) (t' := .int) (by decide) (by decide))))
    have f1213 := (f1198.other W1203 (Or.inr (slot_ne (Or.inr (Wd58 hw)) (Or.inl (Wd65 hw)) (by decide) (t := (.array (.array .long))) (t' := .int) (by decide) (by decide))))
    have f1214 := (((((((Ff.keep K1158 (ninS ne1059 nin0)).keep K1165 (ninS ne1060 nin0)).other W1171 (Or.inl ne1059)).other W1178 (Or.inl ne1060)).keep K1188 (ninS ne1062 nin0)).other W1193 (Or.inl ne1062)).other W1203 (Or.inr (slot_ne (Or.inl (Wd67 hw)) (Or.inl (Wd65 hw)) (by decide) (t := .long) (t' := .int) (by decide) (by decide))))
    have f1215 := ((f1192.other W1193 (Or.inl ne1062)).other W1203 (Or.inr (slot_ne (Or.inl (Wd73 hw)) (Or.inl (Wd65 hw)) (by decide) (t := (.array .long)) (t' := .int) (by decide) (by decide))))
    have f1216 := ((((V1172.other W1178 ne1063).keep K1188 (ninS ne1065 nin0)).other W1193 ne1065).other W1203 (Ne.symm ne1059))
    have f1217 := (((V1179.keep K1188 (ninS ne1067 nin0)).other W1193 ne1067).other W1203 (Ne.symm ne1060))
    have f1218 := (f1199.other W1203 (Ne.symm ne1061))
    have f1219 := (Nat.le_trans (Nat.le_trans (Nat.le_trans (Nat.le_trans (Nat.le_trans (Nat.le_trans (Nat.le_trans (Nat.le_refl h0.size) K1158.1) K1165.1) (Keep.of_wr W1171).1) (Keep.of_wr W1178).1) K1188.1) (Keep.of_wr W1193).1) (Keep.of_wr W1203).1)
    refine ownRet Xh1207 Bd.notSynchronized (v := none) (fun _ => rfl) ?_ (oLe rfl) (oLe rfl) (fun fs hr => Xh1207.returnOut hx Bd.returns (hb hby d7_471) hr)
    show (Q_add2 Z b y hh nn ky kh kn z0 z1 m0 m1 f1 lv p1 q1 h0 n0) (none) T1203.heap _
    rw [e1203]
    have V1209 := f1208
    exact ⟨rfl, Nh1207, f1219, z0, p1, z1, m0, q1, m1, f1, (.ref ln), hb1147_1_0, hb1147_1_2, Or.inr (Or.inl ⟨rfl, rfl, rfl, rfl, rfl, rfl⟩), f1210, f1211, f1212, f1213, F1205, f1214, f1215, f1216, f1217, f1218, Or.inr ⟨ln, kl, rfl, gl, V1209⟩⟩
   ·skip
    exfalso
    simp only [Int32.lt_iff_toInt_lt, ← Int32.toInt_inj] at hb1147_2_0 hb1147_2_1 hb1147_2_2 hne0 hne1
    omega
   ·skip
    have N1220 := Fr.app N0 Nq1147
    obtain ⟨Lh1221, Xh1221, Nh1221⟩ := oHd 0 0 X1147 N1220 rfl rfl
    refine ownBy st1147 ?_
    clear st1147
    show ownG p.tables e below _ (T1147.setTop (fr_add2 m b p1 q1 41 (.val (.int (2 : Int32))) .unset [(.int (-1 : Int32))]))
    refine ownBy (A := T1147.setTop (fr_add2 m b p1 q1 70 (.val (.int (0 : Int32))) .unset [(.ref b)])) (fun t kt => ?_) ?_
    ·refine XS.istore Xh1221.here hx rfl (hb hby d7_41) rfl (l' := #[.val (.ref b), .val (.int p1), .val .null, .val .null, .val (.long q1), .second, .val (.int (-1 : Int32)), .unset, .unset]) rfl ?_
     refine XS.iload Xh1221.here hx rfl (hb hby d7_43) rfl ?_
     refine XS.ifYes Xh1221.here hx rfl (pc0 := 45) (pc' := 62) rfl (hb hby d7_45) rfl ((if0 _ _).trans (tlt ((by decide) : (-1 : Int32) < (0 : Int32))).1) (by decide) (by decide) ?_
     show Steps p.tables e below (T1147.setTop (fr_add2 m b p1 q1 62 (.val (.int (-1 : Int32))) .unset [])) t
     refine XS.iload Xh1221.here hx rfl (hb hby d7_62) rfl ?_
     refine XS.ineg Xh1221.here hx rfl (hb hby d7_64) rfl ?_
     refine XS.iconst Xh1221.here hx rfl (hb hby d7_65) ?_
     show Steps p.tables e below (T1147.setTop (fr_add2 m b p1 q1 66 (.val (.int (-1 : Int32))) .unset [(.int (1 : Int32)), (.int (1 : Int32))])) t
     refine XS.isub Xh1221.here hx rfl (hb hby d7_66) rfl ?_
     refine XS.istore Xh1221.here hx rfl (hb hby d7_67) rfl (l' := #[.val (.ref b), .val (.int p1), .val .null, .val .null, .val (.long q1), .second, .val (.int (0 : Int32)), .unset, .unset]) rfl ?_
     refine XS.aloadN Xh1221.here hx rfl (hb hby d7_69) rfl rfl ?_
     exact kt
    refine own_getF Xh1221 hx hZ hown (host := "") (Or.inl (Wd64 hw)) Via.refl Eq1147 Fs (hb hby d7_70) (fun T1222 X1222 e1222 => ?_)
    refine ownBy (A := T1222.setTop (fr_add2 m b p1 q1 86 (.val (.int (0 : Int32))) .unset [(.ref b)])) (fun t kt => ?_) ?_
    ·refine XS.ifYes X1222.here hx rfl (pc0 := 73) (pc' := 85) rfl (hb hby d7_73) rfl ((if0 _ _).trans (feq ((by decide) : ¬ ((2 : Int32) = (0 : Int32)))).2) (by decide) (by decide) ?_
     refine XS.aloadN X1222.here hx rfl (hb hby d7_85) rfl rfl ?_
     exact kt
    refine own_getF X1222 hx hZ hown (host := "") (Or.inl (Wd72 hw)) Via.refl e1222 Fl (hb hby d7_86) (fun T1223 X1223 e1223 => ?_)
    refine ownBy (A := T1223.setTop (fr_add2 m b p1 q1 162 (.val (.int (0 : Int32))) .unset [(.ref b)])) (fun t kt => ?_) ?_
    ·refine XS.ifnonnullYes X1223.here hx rfl (pc0 := 89) (pc' := 161) rfl (hb hby d7_89) rfl (by decide) (by decide) ?_
     refine XS.aloadN X1223.here hx rfl (hb hby d7_161) rfl rfl ?_
     exact kt
    refine own_getF X1223 hx hZ hown (host := "") (Or.inl (Wd64 hw)) Via.refl e1223 Fs (hb hby d7_162) (fun T1224 X1224 e1224 => ?_)
    refine ownBy (A := T1224.setTop (fr_add2 m b p1 q1 166 (.val (.int (0 : Int32))) .unset [(.ref b), (.int (2 : Int32))])) (fun t kt => ?_) ?_
    ·refine XS.aloadN X1224.here hx rfl (hb hby d7_165) rfl rfl ?_
     exact kt
    refine own_getF X1224 hx hZ hown (host := "") (Or.inl (Wd35 hw)) Via.refl e1224 Fy (hb hby d7_166) (fun T1225 X1225 e1225 => ?_)
    obtain ⟨cl1226, Ar1226, -, S1226, N1226, -, -⟩ := id Ay
    have st1226 := X1225.arraylength hx (by rw [e1225]; exact Ar1226.1) (State.isArrayOf_alike hZ.alike Ar1226.2.1) (g := (fr_add2 m b p1 q1 169 (.val (.int (0 : Int32))) .unset [(.ref y), (.int (2 : Int32))])) rfl rfl (hb hby d7_169)
    rw [len_of S1226 N1226] at st1226
    refine ownBy st1226 ?_
    show ownG p.tables e below _ (T1225.setTop (fr_add2 m b p1 q1 170 (.val (.int (0 : Int32))) .unset [(.int (8 : Int32)), (.int (2 : Int32))]))
    refine ownBy (A := T1225.setTop (fr_add2 m b p1 q1 277 (.val (.int (0 : Int32))) .unset [(.ref b)])) (fun t kt => ?_) ?_
    ·refine XS.icmpYes X1225.here hx rfl (pc0 := 170) (pc' := 276) rfl (hb hby d7_170) rfl (feq ((by decide) : ¬ ((2 : Int32) = (8 : Int32)))).2 (by decide) (by decide) ?_
     refine XS.aloadN X1225.here hx rfl (hb hby d7_276) rfl rfl ?_
     exact kt
    refine own_getF X1225 hx hZ hown (host := "") (Or.inl (Wd35 hw)) Via.refl e1225 Fy (hb hby d7_277) (fun T1227 X1227 e1227 => ?_)
    refine ownBy (A := T1227.setTop (fr_add2 m b p1 q1 283 (.val (.int (0 : Int32))) .unset [(.ref b), (.int (0 : Int32)), (.ref y)])) (fun t kt => ?_) ?_
    ·refine XS.iload X1227.here hx rfl (hb hby d7_280) rfl ?_
     refine XS.aloadN X1227.here hx rfl (hb hby d7_282) rfl rfl ?_
     exact kt
    refine own_getF X1227 hx hZ hown (host := "") (Or.inl (Wd35 hw)) Via.refl e1227 Fy (hb hby d7_283) (fun T1228 X1228 e1228 => ?_)
    refine ownBy (A := T1228.setTop (fr_add2 m b p1 q1 291 (.val (.int (0 : Int32))) .unset [(.ref b), (.int (1 : Int32)), (.ref y), (.int (0 : Int32)), (.ref y)])) (fun t kt => ?_) ?_
    ·refine XS.iload X1228.here hx rfl (hb hby d7_286) rfl ?_
     refine XS.iconst X1228.here hx rfl (hb hby d7_288) ?_
     refine XS.iadd X1228.here hx rfl (hb hby d7_289) rfl ?_
     show Steps p.tables e below (T1228.setTop (fr_add2 m b p1 q1 290 (.val (.int (0 : Int32))) .unset [(.int (1 : Int32)), (.ref y), (.int (0 : Int32)), (.ref y)])) t
     refine XS.aloadN X1228.here hx rfl (hb hby d7_290) rfl rfl ?_
     exact kt
    refine own_getF X1228 hx hZ hown (host := "") (Or.inl (Wd64 hw)) Via.refl e1228 Fs (hb hby d7_291) (fun T1229 X1229 e1229 => ?_)
    refine ownBy (A := T1229.setTop (fr_add2 m b p1 q1 297 (.val (.int (0 : Int32))) .unset [(.int (2 : Int32)), (.int (1 : Int32)), (.ref y), (.int (0 : Int32)), (.ref y)])) (fun t kt => ?_) ?_
    ·refine XS.iload X1229.here hx rfl (hb hby d7_294) rfl ?_
     refine XS.isub X1229.here hx rfl (hb hby d7_296) rfl ?_
     exact kt
    obtain ⟨T1230, h1230, L1230, X1230, e1230, Nq1230, K1230, A1230, st1230⟩ := cpA X1229 hx hZ hown (Wd68 hw) (Wd71 hw) (Wd69 hw) (Wd70 hw) e1229 Ay Ay (us := [(.int z0), (.int z1)]) (Or.inl ⟨rfl, rfl⟩) (sp := (0 : Int32)) (dp := (1 : Int32)) (nn := (2 : Int32)) (by decide) (by decide) (by decide) (by decide) (by decide) rfl (oLe rfl) Nh1221 gy (g := (fr_add2 m b p1 q1 297 (.val (.int (0 : Int32))) .unset [(.int (2 : Int32)), (.int (1 : Int32)), (.ref y), (.int (0 : Int32)), (.ref y)])) rfl (by rw [hml]; rfl) rfl (hb hby d7_297) (by decide) (W := 0) (by show 2 * 0 + _ ≤ _; exact Nat.le_of_eq rfl) (by decide)
    have V1231 : Arv Z h1230 y ky .int (8 : Int32) [(.int z0), (.int z0), (.int z1), (.int (0 : Int32)), (.int (0 : Int32)), (.int (0 : Int32)), (.int (0 : Int32)), (.int (0 : Int32))] (.int (0 : Int32)) := A1230
    refine ownBy st1230 ?_
    clear st1230
    show ownG p.tables e below _ (T1230.setTop (fr_add2 m b p1 q1 300 (.val (.int (0 : Int32))) .unset []))
    refine ownBy (A := T1230.setTop (fr_add2 m b p1 q1 301 (.val (.int (0 : Int32))) .unset [(.ref b)])) (fun t kt => ?_) ?_
    ·refine XS.aloadN X1230.here hx rfl (hb hby d7_300) rfl rfl ?_
     exact kt
    have f1233 := (Fh.keep K1230 (ninS ne1059 nin0))
    refine own_getF X1230 hx hZ hown (host := "") (Or.inl (Wd39 hw)) Via.refl e1230 f1233 (hb hby d7_301) (fun T1232 X1232 e1232 => ?_)
    refine ownBy (A := T1232.setTop (fr_add2 m b p1 q1 307 (.val (.int (0 : Int32))) .unset [(.ref b), (.int (0 : Int32)), (.ref hh)])) (fun t kt => ?_) ?_
    ·refine XS.iload X1232.here hx rfl (hb hby d7_304) rfl ?_
     refine XS.aloadN X1232.here hx rfl (hb hby d7_306) rfl rfl ?_
     exact kt
    refine own_getF X1232 hx hZ hown (host := "") (Or.inl (Wd39 hw)) Via.refl e1232 f1233 (hb hby d7_307) (fun T1234 X1234 e1234 => ?_)
    refine ownBy (A := T1234.setTop (fr_add2 m b p1 q1 315 (.val (.int (0 : Int32))) .unset [(.ref b), (.int (1 : Int32)), (.ref hh), (.int (0 : Int32)), (.ref hh)])) (fun t kt => ?_) ?_
    ·refine XS.iload X1234.here hx rfl (hb hby d7_310) rfl ?_
     refine XS.iconst X1234.here hx rfl (hb hby d7_312) ?_
     refine XS.iadd X1234.here hx rfl (hb hby d7_313) rfl ?_
     show Steps p.tables e below (T1234.setTop (fr_add2 m b p1 q1 314 (.val (.int (0 : Int32))) .unset [(.int (1 : Int32)), (.ref hh), (.int (0 : Int32)), (.ref hh)])) t
     refine XS.aloadN X1234.here hx rfl (hb hby d7_314) rfl rfl ?_
     exact kt
    have f1236 := (Fs.keep K1230 (ninS ne1059 nin0))
    refine own_getF X1234 hx hZ hown (host := "") (Or.inl (Wd64 hw)) Via.refl e1234 f1236 (hb hby d7_315) (fun T1235 X1235 e1235 => ?_)
    refine ownBy (A := T1235.setTop (fr_add2 m b p1 q1 321 (.val (.int (0 : Int32))) .unset [(.int (2 : Int32)), (.int (1 : Int32)), (.ref hh), (.int (0 : Int32)), (.ref hh)])) (fun t kt => ?_) ?_
    ·refine XS.iload X1235.here hx rfl (hb hby d7_318) rfl ?_
     refine XS.isub X1235.here hx rfl (hb hby d7_320) rfl ?_
     exact kt
    have f1238 := (Ah.keep K1230 (ninS (Ne.symm ne1063) nin0))
    obtain ⟨T1237, h1237, L1237, X1237, e1237, Nq1237, K1237, A1237, st1237⟩ := cpA X1235 hx hZ hown (Wd68 hw) (Wd71 hw) (Wd69 hw) (Wd70 hw) e1235 f1238 f1238 (us := [.null, .null]) (Or.inr ⟨rfl, rfl, ⟨Or.inl rfl, ⟨Or.inl rfl, trivial⟩⟩⟩) (sp := (0 : Int32)) (dp := (1 : Int32)) (nn := (2 : Int32)) (by decide) (by decide) (by decide) (by decide) (by decide) rfl (oLe rfl) Nq1230 gh (g := (fr_add2 m b p1 q1 321 (.val (.int (0 : Int32))) .unset [(.int (2 : Int32)), (.int (1 : Int32)), (.ref hh), (.int (0 : Int32)), (.ref hh)])) rfl (by rw [hml]; rfl) rfl (hb hby d7_321) (by decide) (W := 0) (by show 2 * 0 + _ ≤ _; exact Nat.le_of_eq rfl) (by decide)
    have V1239 : Arv Z h1237 hh kh (.object "java/math/BigDecimal") (8 : Int32) [.null, .null, .null, .null, .null, .null, .null, .null] .null := A1237
    refine ownBy st1237 ?_
    clear st1237
    show ownG p.tables e below _ (T1237.setTop (fr_add2 m b p1 q1 324 (.val (.int (0 : Int32))) .unset []))
    refine ownBy (A := T1237.setTop (fr_add2 m b p1 q1 325 (.val (.int (0 : Int32))) .unset [(.ref b)])) (fun t kt => ?_) ?_
    ·refine XS.aloadN X1237.here hx rfl (hb hby d7_324) rfl rfl ?_
     exact kt
    have f1241 := ((Fy.keep K1230 (ninS ne1059 nin0)).keep K1237 (ninS ne1060 nin0))
    refine own_getF X1237 hx hZ hown (host := "") (Or.inl (Wd35 hw)) Via.refl e1237 f1241 (hb hby d7_325) (fun T1240 X1240 e1240 => ?_)
    refine ownBy (A := T1240.setTop (fr_add2 m b p1 q1 331 (.val (.int (0 : Int32))) .unset [(.int p1), (.int (0 : Int32)), (.ref y)])) (fun t kt => ?_) ?_
    ·refine XS.iload X1240.here hx rfl (hb hby d7_328) rfl ?_
     refine XS.iloadN X1240.here hx rfl (hb hby d7_330) rfl ?_
     exact kt
    have f1242 := (V1231.keep K1237 (ninS ne1063 nin0))
    obtain ⟨cl1243, Ar1243, q1243, S1243, N1243, H1243, G1243⟩ := id f1242
    have hin1243 : ¬ ((0 : Int32) < 0 ∨ cl1243.slots.size ≤ ((0 : Int32)).toNatClampNeg) := inb_of S1243 ⟨by decide, by decide⟩
    obtain ⟨T1243, h1243, X1243, e1243, W1243, st1243⟩ := stI X1240 hx hZ e1240 Ar1243 (j := (0 : Int32)) hin1243 (g := (fr_add2 m b p1 q1 331 (.val (.int (0 : Int32))) .unset [(.int p1), (.int (0 : Int32)), (.ref y)])) rfl rfl (hb hby d7_331)
    have V1244 : Arv Z h1243 y ky .int (8 : Int32) [(.int p1), (.int z0), (.int z1), (.int (0 : Int32)), (.int (0 : Int32)), (.int (0 : Int32)), (.int (0 : Int32)), (.int (0 : Int32))] (.int (0 : Int32)) := Arv.set Ar1243 q1243 S1243 N1243 H1243 G1243 rfl W1243 0 rfl (oLe rfl)
    clear hin1243 G1243 H1243 N1243 S1243 q1243 Ar1243 cl1243 f1242
    have N1245 := Fr.snoc X1243 Nq1237 gy
    obtain ⟨Lh1246, Xh1246, Nh1246⟩ := oHd 0 0 X1243 N1245 rfl rfl
    refine ownBy st1243 ?_
    clear st1243
    show ownG p.tables e below _ (T1243.setTop (fr_add2 m b p1 q1 332 (.val (.int (0 : Int32))) .unset []))
    refine ownBy (A := T1243.setTop (fr_add2 m b p1 q1 333 (.val (.int (0 : Int32))) .unset [(.ref b)])) (fun t kt => ?_) ?_
    ·refine XS.aloadN Xh1246.here hx rfl (hb hby d7_332) rfl rfl ?_
     exact kt
    have f1248 := ((f1233.keep K1237 (ninS ne1060 nin0)).other W1243 (Or.inl ne1059))
    refine own_getF Xh1246 hx hZ hown (host := "") (Or.inl (Wd39 hw)) Via.refl e1243 f1248 (hb hby d7_333) (fun T1247 X1247 e1247 => ?_)
    refine ownBy (A := T1247.setTop (fr_add2 m b p1 q1 339 (.val (.int (0 : Int32))) .unset [.null, (.int (0 : Int32)), (.ref hh)])) (fun t kt => ?_) ?_
    ·refine XS.iload X1247.here hx rfl (hb hby d7_336) rfl ?_
     refine XS.aloadN X1247.here hx rfl (hb hby d7_338) rfl rfl ?_
     exact kt
    have f1249 := (V1239.other W1243 (Ne.symm ne1063))
    obtain ⟨cl1250, Ar1250, q1250, S1250, N1250, H1250, G1250⟩ := id f1249
    have hin1250 : ¬ ((0 : Int32) < 0 ∨ cl1250.slots.size ≤ ((0 : Int32)).toNatClampNeg) := inb_of S1250 ⟨by decide, by decide⟩
    obtain ⟨T1250, h1250, X1250, e1250, W1250, st1250⟩ := stR X1247 hx hZ e1247 Ar1250 (j := (0 : Int32)) hin1250 rfl (Or.inl rfl) (g := (fr_add2 m b p1 q1 339 (.val (.int (0 : Int32))) .unset [.null, (.int (0 : Int32)), (.ref hh)])) rfl rfl (hb hby d7_339)
    have V1251 : Arv Z h1250 hh kh (.object "java/math/BigDecimal") (8 : Int32) [.null, .null, .null, .null, .null, .null, .null, .null] .null := Arv.set Ar1250 q1250 S1250 N1250 H1250 G1250 rfl W1250 0 rfl (oLe rfl)
    have N1252 := Fr.snoc X1250 Nh1246 gh
    obtain ⟨Lh1253, Xh1253, Nh1253⟩ := oHd 0 0 X1250 N1252 rfl rfl
    refine ownBy st1250 ?_
    clear st1250
    show ownG p.tables e below _ (T1250.setTop (fr_add2 m b p1 q1 340 (.val (.int (0 : Int32))) .unset []))
    refine ownBy (A := T1250.setTop (fr_add2 m b p1 q1 341 (.val (.int (0 : Int32))) .unset [(.ref b)])) (fun t kt => ?_) ?_
    ·refine XS.aloadN Xh1253.here hx rfl (hb hby d7_340) rfl rfl ?_
     exact kt
    have f1255 := ((((Fl.keep K1230 (ninS ne1059 nin0)).keep K1237 (ninS ne1060 nin0)).other W1243 (Or.inl ne1059)).other W1250 (Or.inl ne1060))
    refine own_getF Xh1253 hx hZ hown (host := "") (Or.inl (Wd72 hw)) Via.refl e1250 f1255 (hb hby d7_341) (fun T1254 X1254 e1254 => ?_)
    refine ownBy (A := T1254.setTop (fr_add2 m b p1 q1 348 (.val (.int (0 : Int32))) .unset [(.ref b)])) (fun t kt => ?_) ?_
    ·refine XS.ifnullNo X1254.here hx rfl (hb hby d7_344) rfl ?_
     refine XS.aloadN X1254.here hx rfl (hb hby d7_347) rfl rfl ?_
     exact kt
    refine own_getF X1254 hx hZ hown (host := "") (Or.inl (Wd72 hw)) Via.refl e1254 f1255 (hb hby d7_348) (fun T1256 X1256 e1256 => ?_)
    refine ownBy (A := T1256.setTop (fr_add2 m b p1 q1 354 (.val (.int (0 : Int32))) .unset [(.ref b), (.int (0 : Int32)), (.ref ln)])) (fun t kt => ?_) ?_
    ·refine XS.iload X1256.here hx rfl (hb hby d7_351) rfl ?_
     refine XS.aloadN X1256.here hx rfl (hb hby d7_353) rfl rfl ?_
     exact kt
    refine own_getF X1256 hx hZ hown (host := "") (Or.inl (Wd72 hw)) Via.refl e1256 f1255 (hb hby d7_354) (fun T1257 X1257 e1257 => ?_)
    refine ownBy (A := T1257.setTop (fr_add2 m b p1 q1 362 (.val (.int (0 : Int32))) .unset [(.ref b), (.int (1 : Int32)), (.ref ln), (.int (0 : Int32)), (.ref ln)])) (fun t kt => ?_) ?_
    ·refine XS.iload X1257.here hx rfl (hb hby d7_357) rfl ?_
     refine XS.iconst X1257.here hx rfl (hb hby d7_359) ?_
     refine XS.iadd X1257.here hx rfl (hb hby d7_360) rfl ?_
     show Steps p.tables e below (T1257.setTop (fr_add2 m b p1 q1 361 (.val (.int (0 : Int32))) .unset [(.int (1 : Int32)), (.ref ln), (.int (0 : Int32)), (.ref ln)])) t
     refine XS.aloadN X1257.here hx rfl (hb hby d7_361) rfl rfl ?_
     exact kt
    have f1259 := (((f1236.keep K1237 (ninS ne1060 nin0)).other W1243 (Or.inl ne1059)).other W1250 (Or.inl ne1060))
    refine own_getF X1257 hx hZ hown (host := "") (Or.inl (Wd64 hw)) Via.refl e1257 f1259 (hb hby d7_362) (fun T1258 X1258 e1258 => ?_)
    refine ownBy (A := T1258.setTop (fr_add2 m b p1 q1 368 (.val (.int (0 : Int32))) .unset [(.int (2 : Int32)), (.int (1 : Int32)), (.ref ln), (.int (0 : Int32)), (.ref ln)])) (fun t kt => ?_) ?_
    ·refine XS.iload X1258.here hx rfl (hb hby d7_365) rfl ?_
     refine XS.isub X1258.here hx rfl (hb hby d7_367) rfl ?_
     exact kt
    have f1261 := ((((Al.keep K1230 (ninS (Ne.symm ne1065) nin0)).keep K1237 (ninS (Ne.symm ne1067) nin0)).other W1243 (Ne.symm ne1065)).other W1250 (Ne.symm ne1067))
    obtain ⟨T1260, h1260, L1260, X1260, e1260, Nq1260, K1260, A1260, st1260⟩ := cpA X1258 hx hZ hown (Wd68 hw) (Wd71 hw) (Wd69 hw) (Wd70 hw) e1258 f1261 f1261 (us := [(.long m0), (.long m1)]) (Or.inl ⟨rfl, rfl⟩) (sp := (0 : Int32)) (dp := (1 : Int32)) (nn := (2 : Int32)) (by decide) (by decide) (by decide) (by decide) (by decide) rfl (oLe rfl) Nh1253 gl (g := (fr_add2 m b p1 q1 368 (.val (.int (0 : Int32))) .unset [(.int (2 : Int32)), (.int (1 : Int32)), (.ref ln), (.int (0 : Int32)), (.ref ln)])) rfl (by rw [hml]; rfl) rfl (hb hby d7_368) (by decide) (W := 0) (by show 2 * 0 + _ ≤ _; exact Nat.le_of_eq rfl) (by decide)
    have V1262 : Arv Z h1260 ln kl .long (8 : Int32) [(.long m0), (.long m0), (.long m1), (.long (0 : Int64)), (.long (0 : Int64)), (.long (0 : Int64)), (.long (0 : Int64)), (.long (0 : Int64))] (.long (0 : Int64)) := A1260
    refine ownBy st1260 ?_
    clear st1260
    show ownG p.tables e below _ (T1260.setTop (fr_add2 m b p1 q1 371 (.val (.int (0 : Int32))) .unset []))
    refine ownBy (A := T1260.setTop (fr_add2 m b p1 q1 372 (.val (.int (0 : Int32))) .unset [(.ref b)])) (fun t kt => ?_) ?_
    ·refine XS.aloadN X1260.here hx rfl (hb hby d7_371) rfl rfl ?_
     exact kt
    have f1264 := (f1255.keep K1260 (ninS ne1062 nin0))
    refine own_getF X1260 hx hZ hown (host := "") (Or.inl (Wd72 hw)) Via.refl e1260 f1264 (hb hby d7_372) (fun T1263 X1263 e1263 => ?_)
    refine ownBy (A := T1263.setTop (fr_add2 m b p1 q1 379 (.val (.int (0 : Int32))) .unset [(.long q1), (.int (0 : Int32)), (.ref ln)])) (fun t kt => ?_) ?_
    ·refine XS.iload X1263.here hx rfl (hb hby d7_375) rfl ?_
     refine XS.lload X1263.here hx rfl (hb hby d7_377) rfl ?_
     exact kt
    obtain ⟨cl1265, Ar1265, q1265, S1265, N1265, H1265, G1265⟩ := id V1262
    have hin1265 : ¬ ((0 : Int32) < 0 ∨ cl1265.slots.size ≤ ((0 : Int32)).toNatClampNeg) := inb_of S1265 ⟨by decide, by decide⟩
    obtain ⟨T1265, h1265, X1265, e1265, W1265, st1265⟩ := stJ X1263 hx hZ e1263 Ar1265 (j := (0 : Int32)) hin1265 (g := (fr_add2 m b p1 q1 379 (.val (.int (0 : Int32))) .unset [(.long q1), (.int (0 : Int32)), (.ref ln)])) rfl rfl (hb hby d7_379)
    have V1266 : Arv Z h1265 ln kl .long (8 : Int32) [(.long q1), (.long m0), (.long m1), (.long (0 : Int64)), (.long (0 : Int64)), (.long (0 : Int64)), (.long (0 : Int64)), (.long (0 : Int64))] (.long (0 : Int64)) := Arv.set Ar1265 q1265 S1265 N1265 H1265 G1265 rfl W1265 0 rfl (oLe rfl)
    clear hin1265 G1265 H1265 N1265 S1265 q1265 Ar1265 cl1265 V1262
    have N1267 := Fr.snoc X1265 Nq1260 gl
    obtain ⟨Lh1268, Xh1268, Nh1268⟩ := oHd 0 0 X1265 N1267 rfl rfl
    refine ownBy st1265 ?_
    clear st1265
    show ownG p.tables e below _ (T1265.setTop (fr_add2 m b p1 q1 380 (.val (.int (0 : Int32))) .unset []))
    refine ownBy (A := T1265.setTop (fr_add2 m b p1 q1 386 (.val (.int (0 : Int32))) (.val (.int (0 : Int32))) [(.ref b), (.int (0 : Int32))])) (fun t kt => ?_) ?_
    ·refine XS.iconst Xh1268.here hx rfl (hb hby d7_380) ?_
     refine XS.istore Xh1268.here hx rfl (hb hby d7_381) rfl (l' := #[.val (.ref b), .val (.int p1), .val .null, .val .null, .val (.long q1), .second, .val (.int (0 : Int32)), .val (.int (0 : Int32)), .unset]) rfl ?_
     refine XS.iload Xh1268.here hx rfl (hb hby d7_383) rfl ?_
     show Steps p.tables e below (T1265.setTop (fr_add2 m b p1 q1 385 (.val (.int (0 : Int32))) (.val (.int (0 : Int32))) [(.int (0 : Int32))])) t
     refine XS.aloadN Xh1268.here hx rfl (hb hby d7_385) rfl rfl ?_
     exact kt
    have f1270 := ((((((Fn.keep K1230 (ninS ne1059 nin0)).keep K1237 (ninS ne1060 nin0)).other W1243 (Or.inl ne1059)).other W1250 (Or.inl ne1060)).keep K1260 (ninS ne1062 nin0)).other W1265 (Or.inl ne1062))
    refine own_getF Xh1268 hx hZ hown (host := "") (Or.inl (Wd57 hw)) Via.refl e1265 f1270 (hb hby d7_386) (fun T1269 X1269 e1269 => ?_)
    have f1271 := ((((((An.keep K1230 (ninS (Ne.symm ne1064) nin0)).keep K1237 (ninS (Ne.symm ne1066) nin0)).other W1243 (Ne.symm ne1064)).other W1250 (Ne.symm ne1066)).keep K1260 (ninS ne1068 nin0)).other W1265 ne1068)
    obtain ⟨cl1272, Ar1272, -, S1272, N1272, -, -⟩ := id f1271
    have st1272 := X1269.arraylength hx (by rw [e1269]; exact Ar1272.1) (State.isArrayOf_alike hZ.alike Ar1272.2.1) (g := (fr_add2 m b p1 q1 389 (.val (.int (0 : Int32))) (.val (.int (0 : Int32))) [(.ref nn), (.int (0 : Int32))])) rfl rfl (hb hby d7_389)
    rw [len_of S1272 N1272] at st1272
    refine ownBy st1272 ?_
    show ownG p.tables e below _ (T1269.setTop (fr_add2 m b p1 q1 390 (.val (.int (0 : Int32))) (.val (.int (0 : Int32))) [(.int (0 : Int32)), (.int (0 : Int32))]))
    refine ownBy (A := T1269.setTop (fr_add2 m b p1 q1 463 (.val (.int (0 : Int32))) (.val (.int (0 : Int32))) [(.ref b), (.ref b)])) (fun t kt => ?_) ?_
    ·refine XS.icmpYes X1269.here hx rfl (pc0 := 390) (pc' := 461) rfl (hb hby d7_390) rfl (flt ((by decide) : ¬ ((0 : Int32) < (0 : Int32)))).2.1 (by decide) (by decide) ?_
     refine XS.aloadN X1269.here hx rfl (hb hby d7_461) rfl rfl ?_
     refine XS.dup X1269.here hx rfl (hb hby d7_462) rfl rfl ?_
     exact kt
    have f1274 := ((f1259.keep K1260 (ninS ne1062 nin0)).other W1265 (Or.inl ne1062))
    refine own_getF X1269 hx hZ hown (host := "") (Or.inl (Wd64 hw)) Via.refl e1269 f1274 (hb hby d7_463) (fun T1273 X1273 e1273 => ?_)
    refine ownBy (A := T1273.setTop (fr_add2 m b p1 q1 468 (.val (.int (0 : Int32))) (.val (.int (0 : Int32))) [(.int (3 : Int32)), (.ref b)])) (fun t kt => ?_) ?_
    ·refine XS.iconst X1273.here hx rfl (hb hby d7_466) ?_
     refine XS.iadd X1273.here hx rfl (hb hby d7_467) rfl ?_
     exact kt
    have f1276 := ((((((E1.keep K1230).keep K1237).wr W1243).wr W1250).keep K1260).wr W1265)
    obtain ⟨T1275, h1275, X1275, e1275, W1275, st1275⟩ := putF X1273 hx hZ hown (host := "") (Or.inl (Wd64 hw)) Via.refl e1273 f1274 f1276 (Or.inl (Wd65 hw)) (Wd3 hw) (ty := .int) (by decide) rfl rfl (g := (fr_add2 m b p1 q1 468 (.val (.int (0 : Int32))) (.val (.int (0 : Int32))) [(.int (3 : Int32)), (.ref b)])) rfl rfl (hb hby d7_468)
    have F1277 := f1274.same W1275
    have N1278 := Fr.snoc X1275 Nh1268 gb
    obtain ⟨Lh1279, Xh1279, Nh1279⟩ := oHd 0 0 X1275 N1278 rfl rfl
    refine ownBy st1275 ?_
    clear st1275
    show ownG p.tables e below _ (T1275.setTop (fr_add2 m b p1 q1 471 (.val (.int (0 : Int32))) (.val (.int (0 : Int32))) []))
    have f1280 := (V1266.other W1275 (Ne.symm ne1062))
    have f1282 := (f1276.wr W1275)
    have f1283 := (((((f1241.other W1243 (Or.inl ne1059)).other W1250 (Or.inl ne1060)).keep K1260 (ninS ne1062 nin0)).other W1265 (Or.inl ne1062)).other W1275 (Or.inr (slot_ne (Or.inl (Wd36 hw)) (Or.inl (Wd65 hw)) (by decide) (t := (.array .int)) (t' := .int) (by decide) (by decide))))
    have f1284 := ((((f1248.other W1250 (Or.inl ne1060)).keep K1260 (ninS ne1062 nin0)).other W1265 (Or.inl ne1062)).other W1275 (Or.inr (slot_ne (Or.inl (Wd40 hw)) (Or.inl (Wd65 hw)) (by decide) (t := (.array (.object "java/math/BigDecimal"))) (t' := .int) (by decide) (by decide))))
    have f1285 := (f1270.other W1275 (Or.inr (slot_ne (Or.inr (Wd58 hw)) (Or.inl (Wd65 hw)) (by decide) (t := (.array (.array .long))) (t' := .int) (by decide) (by decide))))
    have f1286 := (((((((Ff.keep K1230 (ninS ne1059 nin0)).keep K1237 (ninS ne1060 nin0)).other W1243 (Or.inl ne1059)).other W1250 (Or.inl ne1060)).keep K1260 (ninS ne1062 nin0)).other W1265 (Or.inl ne1062)).other W1275 (Or.inr (slot_ne (Or.inl (Wd67 hw)) (Or.inl (Wd65 hw)) (by decide) (t := .long) (t' := .int) (by decide) (by decide))))
    have f1287 := ((f1264.other W1265 (Or.inl ne1062)).other W1275 (Or.inr (slot_ne (Or.inl (Wd73 hw)) (Or.inl (Wd65 hw)) (by decide) (t := (.array .long)) (t' := .int) (by decide) (by decide))))
    have f1288 := ((((V1244.other W1250 ne1063).keep K1260 (ninS ne1065 nin0)).other W1265 ne1065).other W1275 (Ne.symm ne1059))
    have f1289 := (((V1251.keep K1260 (ninS ne1067 nin0)).other W1265 ne1067).other W1275 (Ne.symm ne1060))
    have f1290 := (f1271.other W1275 (Ne.symm ne1061))
    have f1291 := (Nat.le_trans (Nat.le_trans (Nat.le_trans (Nat.le_trans (Nat.le_trans (Nat.le_trans (Nat.le_trans (Nat.le_refl h0.size) K1230.1) K1237.1) (Keep.of_wr W1243).1) (Keep.of_wr W1250).1) K1260.1) (Keep.of_wr W1265).1) (Keep.of_wr W1275).1)
    refine ownRet Xh1279 Bd.notSynchronized (v := none) (fun _ => rfl) ?_ (oLe rfl) (oLe rfl) (fun fs hr => Xh1279.returnOut hx Bd.returns (hb hby d7_471) hr)
    show (Q_add2 Z b y hh nn ky kh kn z0 z1 m0 m1 f1 lv p1 q1 h0 n0) (none) T1275.heap _
    rw [e1275]
    have V1281 := f1280
    exact ⟨rfl, Nh1279, f1291, p1, z0, z1, q1, m0, m1, f1, (.ref ln), hb1147_3_1, hs0, Or.inl ⟨rfl, rfl, rfl, rfl, rfl, rfl⟩, f1282, f1283, f1284, f1285, F1277, f1286, f1287, f1288, f1289, f1290, Or.inr ⟨ln, kl, rfl, gl, V1281⟩⟩
   ·skip
    exfalso
    simp only [Int32.lt_iff_toInt_lt, ← Int32.toInt_inj] at hb1147_4_0 hb1147_4_1 hne0 hne1
    omega
abbrev fr_lof1 (m : MethodId) (b : Addr) (q1 : Int32) (pc : Nat) (x2_ x3_ x4_ : Slot) (st : List Value) : JFrame := mkF m pc #[.val (.ref b), .val (.int q1), x2_, x3_, x4_] st
def Q_lof1 (Z : State) (b : Addr) (y : Addr) (hh : Addr) (nn : Addr) (ky : ClassId) (kh : ClassId) (kn : ClassId) (z0 : Int32) (m0 : Int64) (f1 : Int64) (lv : Value) (q1 : Int32) (h0 : Heap) (n0 : Nat) (v : Option Value) (h : Heap) (L : List Loc) : Prop := ∃ r : Int64, v = some (.long r) ∧ Fr n0 L ∧ h = h0 ∧ ((q1 = z0 ∧ r = m0))
theorem ef_lof1 (m : MethodId) (x0 : Addr) (x1 : Int32)  : entryFrame m #[(.ref x0), (.int x1)] 5 = mkF m 0 #[.val (.ref x0), .val (.int x1), .unset, .unset, .unset] [] := by first | (simp [entryFrame, mkF, argsToLocals, Value.category]; done) | rfl
set_option maxRecDepth 65536 in
set_option maxHeartbeats 40000000 in
theorem c_lof1 (l : Launch) (Z : State) (a0 : Array Value) (hw : ∀ d ∈ tables_1, d.before a0 Z = true) (ws : List Jvm.Cond) (b : Addr) (y : Addr) (hh : Addr) (nn : Addr) (ky : ClassId) (kh : ClassId) (kn : ClassId) (z0 : Int32) (m0 : Int64) (f1 : Int64) (lv : Value) (q1 : Int32) (h0 : Heap) (n0 : Nat) (Z0 : n0 ≤ h0.size) (E1 : Exa Z h0 b "com/example/vestline/vestline/HoursByPlanYear$Builder") (Fy : Fld Z h0 b "com/example/vestline/vestline/HoursByPlanYear$Builder" "years" "[I" (.ref y)) (Fh : Fld Z h0 b "com/example/vestline/vestline/HoursByPlanYear$Builder" "hours" "[Ljava/math/BigDecimal;" (.ref hh)) (Fn : Fld Z h0 b "com/example/vestline/vestline/HoursByPlanYear$Builder" "numbers" "[[J" (.ref nn)) (Fs : Fld Z h0 b "com/example/vestline/vestline/HoursByPlanYear$Builder" "size" "I" (.int (1 : Int32))) (Ff : Fld Z h0 b "com/example/vestline/vestline/HoursByPlanYear$Builder" "firstLine" "J" (.long f1)) (Fl : Fld Z h0 b "com/example/vestline/vestline/HoursByPlanYear$Builder" "lines" "[J" lv) (Ay : Arv Z h0 y ky .int (8 : Int32) [(.int z0), (.int (0 : Int32)), (.int (0 : Int32)), (.int (0 : Int32)), (.int (0 : Int32)), (.int (0 : Int32)), (.int (0 : Int32)), (.int (0 : Int32))] (.int (0 : Int32))) (Ah : Arv Z h0 hh kh (.object "java/math/BigDecimal") (8 : Int32) [.null, .null, .null, .null, .null, .null, .null, .null] .null) (An : Arv Z h0 nn kn (.array .long) (0 : Int32) [] .null) (hLN : ((lv = .null ∧ m0 = f1 + (0 : Int64)) ∨ ∃ (l : Addr) (kl : ClassId), lv = .ref l ∧ n0 ≤ l ∧ Arv Z h0 l kl .long (8 : Int32) [(.long m0), (.long (0 : Int64)), (.long (0 : Int64)), (.long (0 : Int64)), (.long (0 : Int64)), (.long (0 : Int64)), (.long (0 : Int64)), (.long (0 : Int64))] (.long (0 : Int64)))) (hmem : q1 = z0) :
  MetFree l (⟨"com/example/vestline/vestline/HoursByPlanYear$Builder", "lineOf", "(I)J"⟩ : MethodName) (head1 (Jvm.Cond.code (⟨"com/example/vestline/vestline/HoursByPlanYear$Builder", "lineOf", "(I)J"⟩ : MethodName) prog_14_method_4_code 5 (some .long) :: ws) ({ frames := 2, cells := 0, slots := 0, locals := 34 } : Room)) (fun a U => a = #[(.ref b), (.int q1)] ∧ Z.Warmed39 U.vm ∧ U.heap = h0) (fun _ _ _ _ _ => True) (fun _ U o U' => ∃ v L, o = .returned v ∧ (Q_lof1 Z b y hh nn ky kh kn z0 m0 f1 lv q1 h0 n0) v U'.heap L ∧ FrameEnd U o U' L ({ frames := 2, cells := 0, slots := 0, locals := 34 } : Room).cells ({ frames := 2, cells := 0, slots := 0, locals := 34 } : Room).slots) := by
 refine MetFree.of_bodySF (plainFor_of_name pn_73) hisR ?_
 intro p e s m args below meth c s₁ Bd hml0 hP hK
 obtain ⟨rfl, hZ, hHp⟩ := hP
 have hx := Bd.exec
 have hby := Bd.bytes
 have hml : c.maxLocals = 5 := hml0
 have hown : s.vm.findClass "com/example/vestline/vestline/HoursByPlanYear$Builder" = some m.cls := findClass_of_methodNamed Bd.named
 have hnm := (name_of_methodNamed Bd.named Bd.method).1
 have X0 : Stand p l e ({ frames := 2, cells := 0, slots := 0, locals := 34 } : Room) s m #[(.ref b), (.int q1)] below meth c s₁ [] 0 0 := Stand.of_body Bd
 have e0 : s₁.heap = h0 := by rw [← hHp, Bd.state]; rfl
 have N0 := Fr.nil n0
 refine ownOut (P := (Q_lof1 Z b y hh nn ky kh kn z0 m0 f1 lv q1 h0 n0)) ?_
 refine ownBy (A := s₁.setTop (mkF m 0 #[.val (.ref b), .val (.int q1), .unset, .unset, .unset] [])) (fun t k => castTop (ef_lof1 m b q1) k) ?_
 rcases hLN with ⟨hlv, hm0⟩ | ⟨ln, kl, hlv, gl, Al⟩
 ·rw [hlv] at Fl
  refine ownBy (A := s₁.setTop (fr_lof1 m b q1 1 .unset .unset .unset [(.ref b)])) (fun t kt => ?_) ?_
  ·refine XS.aloadN X0.here hx rfl (hb hby d8_0) rfl rfl ?_
   exact kt
  refine own_getF X0 hx hZ hown (host := "") (Or.inl (Wd35 hw)) Via.refl e0 Fy (hb hby d8_1) (fun T1292 X1292 e1292 => ?_)
  refine ownBy (A := T1292.setTop (fr_lof1 m b q1 6 .unset .unset .unset [(.ref b), (.int (0 : Int32)), (.ref y)])) (fun t kt => ?_) ?_
  ·refine XS.iconst X1292.here hx rfl (hb hby d8_4) ?_
   show Steps p.tables e below (T1292.setTop (fr_lof1 m b q1 5 .unset .unset .unset [(.int (0 : Int32)), (.ref y)])) t
   refine XS.aloadN X1292.here hx rfl (hb hby d8_5) rfl rfl ?_
   exact kt
  refine own_getF X1292 hx hZ hown (host := "") (Or.inl (Wd64 hw)) Via.refl e1292 Fs (hb hby d8_6) (fun T1293 X1293 e1293 => ?_)
  refine ownBy (A := T1293.setTop (fr_lof1 m b q1 10 .unset .unset .unset [(.int q1), (.int (1 : Int32)), (.int (0 : Int32)), (.ref y)])) (fun t kt => ?_) ?_
  ·refine XS.iloadN X1293.here hx rfl (hb hby d8_9) rfl ?_
   exact kt
  obtain ⟨vv1294, _, ⟨T1294, L1294, k1294, n1294⟩, -, X1294, ⟨Lc1294, hQ1294, l1294, y1294, z1294⟩, st1294⟩ := Jvm.LawKit.callS X1293 hx (y := (⟨"java/util/Arrays", "binarySearch", "([IIII)I"⟩ : MethodName)) hown (mvT hZ (Wd79 hw)) (mvT hZ (Wd80 hw)) (mvT hZ (Wd81 hw)) (mvT hZ (Wd82 hw)) (by decide) (backOf (W := 0) (c_bs1 l Z a0 hw [] y ky z0 q1 h0 n0 Z0 Ay) hZ (Wd82 hw) (Wd81 hw) (by decide) (by decide)) (g := (fr_lof1 m b q1 10 .unset .unset .unset [(.int q1), (.int (1 : Int32)), (.int (0 : Int32)), (.ref y)])) rfl (by rw [hml]; rfl) (argsL := [(.ref y), (.int (0 : Int32)), (.int (1 : Int32)), (.int q1)]) (rest := []) (lenOf pd_11 rfl) rfl (by show 2 * 0 + _ ≤ _; exact Nat.le_of_eq rfl) (hb hby d8_10) (fun _ _ => ⟨rfl, e1293, (by decide : 0 + 0 ≤ _), (by decide : 0 + 0 ≤ _)⟩)
  dsimp only [Pt.U, Pt.locs, Pt.cells, Pt.slots] at X1294 l1294 y1294 z1294 st1294 hQ1294
  subst l1294 y1294 z1294
  obtain ⟨r1294, rfl, Nq1294, Eq1294, hB1294⟩ := hQ1294
  rcases hB1294 with ⟨hb1294_0_0, rfl⟩ | ⟨hb1294_1_0, hb1294_1_1, rfl⟩ | ⟨hb1294_2_0, hb1294_2_1, rfl⟩
  ·skip
   exfalso
   simp only [Int32.lt_iff_toInt_lt, ← Int32.toInt_inj] at hb1294_0_0 hmem
   omega
  ·skip
   exfalso
   simp only [Int32.lt_iff_toInt_lt, ← Int32.toInt_inj] at hb1294_1_0 hb1294_1_1 hmem
   omega
  ·skip
   have N1295 := Fr.app N0 Nq1294
   obtain ⟨Lh1296, Xh1296, Nh1296⟩ := oHd 0 0 X1294 N1295 rfl rfl
   refine ownBy st1294 ?_
   clear st1294
   show ownG p.tables e below _ (T1294.setTop (fr_lof1 m b q1 13 .unset .unset .unset [(.int (0 : Int32))]))
   refine ownBy (A := T1294.setTop (fr_lof1 m b q1 33 (.val (.int (0 : Int32))) .unset .unset [(.ref b)])) (fun t kt => ?_) ?_
   ·refine XS.istoreN Xh1296.here hx rfl (hb hby d8_13) rfl (l' := #[.val (.ref b), .val (.int q1), .val (.int (0 : Int32)), .unset, .unset]) rfl ?_
    show Steps p.tables e below (T1294.setTop (fr_lof1 m b q1 14 (.val (.int (0 : Int32))) .unset .unset [])) t
    refine XS.iloadN Xh1296.here hx rfl (hb hby d8_14) rfl ?_
    show Steps p.tables e below (T1294.setTop (fr_lof1 m b q1 15 (.val (.int (0 : Int32))) .unset .unset [(.int (0 : Int32))])) t
    refine XS.ifYes Xh1296.here hx rfl (pc0 := 15) (pc' := 32) rfl (hb hby d8_15) rfl ((if0 _ _).trans (flt ((by decide) : ¬ ((0 : Int32) < (0 : Int32)))).2.1) (by decide) (by decide) ?_
    show Steps p.tables e below (T1294.setTop (fr_lof1 m b q1 32 (.val (.int (0 : Int32))) .unset .unset [])) t
    refine XS.aloadN Xh1296.here hx rfl (hb hby d8_32) rfl rfl ?_
    exact kt
   refine own_getF Xh1296 hx hZ hown (host := "") (Or.inl (Wd66 hw)) Via.refl Eq1294 Ff (hb hby d8_33) (fun T1297 X1297 e1297 => ?_)
   refine ownBy (A := T1297.setTop (fr_lof1 m b q1 41 (.val (.int (0 : Int32))) (.val (.long (f1 + (0 : Int64)))) .second [(.ref b)])) (fun t kt => ?_) ?_
   ·refine XS.iloadN X1297.here hx rfl (hb hby d8_36) rfl ?_
    show Steps p.tables e below (T1297.setTop (fr_lof1 m b q1 37 (.val (.int (0 : Int32))) .unset .unset [(.int (0 : Int32)), (.long f1)])) t
    refine XS.i2l X1297.here hx rfl (hb hby d8_37) rfl ?_
    show Steps p.tables e below (T1297.setTop (fr_lof1 m b q1 38 (.val (.int (0 : Int32))) .unset .unset [(.long (0 : Int64)), (.long f1)])) t
    refine XS.ladd X1297.here hx rfl (hb hby d8_38) rfl ?_
    show Steps p.tables e below (T1297.setTop (fr_lof1 m b q1 39 (.val (.int (0 : Int32))) .unset .unset [(.long (f1 + (0 : Int64)))])) t
    refine XS.lstoreN X1297.here hx rfl (hb hby d8_39) rfl (l' := #[.val (.ref b), .val (.int q1), .val (.int (0 : Int32)), .val (.long (f1 + (0 : Int64))), .second]) rfl ?_
    show Steps p.tables e below (T1297.setTop (fr_lof1 m b q1 40 (.val (.int (0 : Int32))) (.val (.long (f1 + (0 : Int64)))) .second [])) t
    refine XS.aloadN X1297.here hx rfl (hb hby d8_40) rfl rfl ?_
    exact kt
   refine own_getF X1297 hx hZ hown (host := "") (Or.inl (Wd72 hw)) Via.refl e1297 Fl (hb hby d8_41) (fun T1298 X1298 e1298 => ?_)
   refine ownBy (A := T1298.setTop (fr_lof1 m b q1 55 (.val (.int (0 : Int32))) (.val (.long (f1 + (0 : Int64)))) .second [(.long (f1 + (0 : Int64)))])) (fun t kt => ?_) ?_
   ·refine XS.ifnullYes X1298.here hx rfl (pc0 := 44) (pc' := 54) rfl (hb hby d8_44) rfl (by decide) (by decide) ?_
    show Steps p.tables e below (T1298.setTop (fr_lof1 m b q1 54 (.val (.int (0 : Int32))) (.val (.long (f1 + (0 : Int64)))) .second [])) t
    refine XS.lloadN X1298.here hx rfl (hb hby d8_54) rfl ?_
    exact kt
   refine ownRet X1298 Bd.notSynchronized (v := some (.long (f1 + (0 : Int64)))) (fun h => by rw [Bd.returns] at h; cases h) ?_ (oLe rfl) (oLe rfl) (fun fs hr => retOut X1298 hx Bd.returns rfl (Or.inr (Or.inl ⟨rfl, rfl, _, rfl⟩)) (hb hby d8_55) hr)
   show (Q_lof1 Z b y hh nn ky kh kn z0 m0 f1 lv q1 h0 n0) (some (.long (f1 + (0 : Int64)))) T1298.heap _
   rw [e1298]
   exact ⟨_, rfl, Nh1296, rfl, ⟨own_eq_nlt hb1294_2_0 hb1294_2_1, hm0.symm⟩⟩
 ·rw [hlv] at Fl
  refine ownBy (A := s₁.setTop (fr_lof1 m b q1 1 .unset .unset .unset [(.ref b)])) (fun t kt => ?_) ?_
  ·refine XS.aloadN X0.here hx rfl (hb hby d8_0) rfl rfl ?_
   exact kt
  refine own_getF X0 hx hZ hown (host := "") (Or.inl (Wd35 hw)) Via.refl e0 Fy (hb hby d8_1) (fun T1299 X1299 e1299 => ?_)
  refine ownBy (A := T1299.setTop (fr_lof1 m b q1 6 .unset .unset .unset [(.ref b), (.int (0 : Int32)), (.ref y)])) (fun t kt => ?_) ?_
  ·refine XS.iconst X1299.here hx rfl (hb hby d8_4) ?_
   show Steps p.tables e below (T1299.setTop (fr_lof1 m b q1 5 .unset .unset .unset [(.int (0 : Int32)), (.ref y)])) t
   refine XS.aloadN X1299.here hx rfl (hb hby d8_5) rfl rfl ?_
   exact kt
  refine own_getF X1299 hx hZ hown (host := "") (Or.inl (Wd64 hw)) Via.refl e1299 Fs (hb hby d8_6) (fun T1300 X1300 e1300 => ?_)
  refine ownBy (A := T1300.setTop (fr_lof1 m b q1 10 .unset .unset .unset [(.int q1), (.int (1 : Int32)), (.int (0 : Int32)), (.ref y)])) (fun t kt => ?_) ?_
  ·refine XS.iloadN X1300.here hx rfl (hb hby d8_9) rfl ?_
   exact kt
  obtain ⟨vv1301, _, ⟨T1301, L1301, k1301, n1301⟩, -, X1301, ⟨Lc1301, hQ1301, l1301, y1301, z1301⟩, st1301⟩ := Jvm.LawKit.callS X1300 hx (y := (⟨"java/util/Arrays", "binarySearch", "([IIII)I"⟩ : MethodName)) hown (mvT hZ (Wd79 hw)) (mvT hZ (Wd80 hw)) (mvT hZ (Wd81 hw)) (mvT hZ (Wd82 hw)) (by decide) (backOf (W := 0) (c_bs1 l Z a0 hw [] y ky z0 q1 h0 n0 Z0 Ay) hZ (Wd82 hw) (Wd81 hw) (by decide) (by decide)) (g := (fr_lof1 m b q1 10 .unset .unset .unset [(.int q1), (.int (1 : Int32)), (.int (0 : Int32)), (.ref y)])) rfl (by rw [hml]; rfl) (argsL := [(.ref y), (.int (0 : Int32)), (.int (1 : Int32)), (.int q1)]) (rest := []) (lenOf pd_11 rfl) rfl (by show 2 * 0 + _ ≤ _; exact Nat.le_of_eq rfl) (hb hby d8_10) (fun _ _ => ⟨rfl, e1300, (by decide : 0 + 0 ≤ _), (by decide : 0 + 0 ≤ _)⟩)
  dsimp only [Pt.U, Pt.locs, Pt.cells, Pt.slots] at X1301 l1301 y1301 z1301 st1301 hQ1301
  subst l1301 y1301 z1301
  obtain ⟨r1301, rfl, Nq1301, Eq1301, hB1301⟩ := hQ1301
  rcases hB1301 with ⟨hb1301_0_0, rfl⟩ | ⟨hb1301_1_0, hb1301_1_1, rfl⟩ | ⟨hb1301_2_0, hb1301_2_1, rfl⟩
  ·skip
   exfalso
   simp only [Int32.lt_iff_toInt_lt, ← Int32.toInt_inj] at hb1301_0_0 hmem
   omega
  ·skip
   exfalso
   simp only [Int32.lt_iff_toInt_lt, ← Int32.toInt_inj] at hb1301_1_0 hb1301_1_1 hmem
   omega
  ·skip
   have N1302 := Fr.app N0 Nq1301
   obtain ⟨Lh1303, Xh1303, Nh1303⟩ := oHd 0 0 X1301 N1302 rfl rfl
   refine ownBy st1301 ?_
   clear st1301
   show ownG p.tables e below _ (T1301.setTop (fr_lof1 m b q1 13 .unset .unset .unset [(.int (0 : Int32))]))
   refine ownBy (A := T1301.setTop (fr_lof1 m b q1 33 (.val (.int (0 : Int32))) .unset .unset [(.ref b)])) (fun t kt => ?_) ?_
   ·refine XS.istoreN Xh1303.here hx rfl (hb hby d8_13) rfl (l' := #[.val (.ref b), .val (.int q1), .val (.int (0 : Int32)), .unset, .unset]) rfl ?_
    show Steps p.tables e below (T1301.setTop (fr_lof1 m b q1 14 (.val (.int (0 : Int32))) .unset .unset [])) t
    refine XS.iloadN Xh1303.here hx rfl (hb hby d8_14) rfl ?_
    show Steps p.tables e below (T1301.setTop (fr_lof1 m b q1 15 (.val (.int (0 : Int32))) .unset .unset [(.int (0 : Int32))])) t
    refine XS.ifYes Xh1303.here hx rfl (pc0 := 15) (pc' := 32) rfl (hb hby d8_15) rfl ((if0 _ _).trans (flt ((by decide) : ¬ ((0 : Int32) < (0 : Int32)))).2.1) (by decide) (by decide) ?_
    show Steps p.tables e below (T1301.setTop (fr_lof1 m b q1 32 (.val (.int (0 : Int32))) .unset .unset [])) t
    refine XS.aloadN Xh1303.here hx rfl (hb hby d8_32) rfl rfl ?_
    exact kt
   refine own_getF Xh1303 hx hZ hown (host := "") (Or.inl (Wd66 hw)) Via.refl Eq1301 Ff (hb hby d8_33) (fun T1304 X1304 e1304 => ?_)
   refine ownBy (A := T1304.setTop (fr_lof1 m b q1 41 (.val (.int (0 : Int32))) (.val (.long (f1 + (0 : Int64)))) .second [(.ref b)])) (fun t kt => ?_) ?_
   ·refine XS.iloadN X1304.here hx rfl (hb hby d8_36) rfl ?_
    show Steps p.tables e below (T1304.setTop (fr_lof1 m b q1 37 (.val (.int (0 : Int32))) .unset .unset [(.int (0 : Int32)), (.long f1)])) t
    refine XS.i2l X1304.here hx rfl (hb hby d8_37) rfl ?_
    show Steps p.tables e below (T1304.setTop (fr_lof1 m b q1 38 (.val (.int (0 : Int32))) .unset .unset [(.long (0 : Int64)), (.long f1)])) t
    refine XS.ladd X1304.here hx rfl (hb hby d8_38) rfl ?_
    show Steps p.tables e below (T1304.setTop (fr_lof1 m b q1 39 (.val (.int (0 : Int32))) .unset .unset [(.long (f1 + (0 : Int64)))])) t
    refine XS.lstoreN X1304.here hx rfl (hb hby d8_39) rfl (l' := #[.val (.ref b), .val (.int q1), .val (.int (0 : Int32)), .val (.long (f1 + (0 : Int64))), .second]) rfl ?_
    show Steps p.tables e below (T1304.setTop (fr_lof1 m b q1 40 (.val (.int (0 : Int32))) (.val (.long (f1 + (0 : Int64)))) .second [])) t
    refine XS.aloadN X1304.here hx rfl (hb hby d8_40) rfl rfl ?_
    exact kt
   refine own_getF X1304 hx hZ hown (host := "") (Or.inl (Wd72 hw)) Via.refl e1304 Fl (hb hby d8_41) (fun T1305 X1305 e1305 => ?_)
   refine ownBy (A := T1305.setTop (fr_lof1 m b q1 48 (.val (.int (0 : Int32))) (.val (.long (f1 + (0 : Int64)))) .second [(.ref b)])) (fun t kt => ?_) ?_
   ·refine XS.ifnullNo X1305.here hx rfl (hb hby d8_44) rfl ?_
    show Steps p.tables e below (T1305.setTop (fr_lof1 m b q1 47 (.val (.int (0 : Int32))) (.val (.long (f1 + (0 : Int64)))) .second [])) t
    refine XS.aloadN X1305.here hx rfl (hb hby d8_47) rfl rfl ?_
    exact kt
   refine own_getF X1305 hx hZ hown (host := "") (Or.inl (Wd72 hw)) Via.refl e1305 Fl (hb hby d8_48) (fun T1306 X1306 e1306 => ?_)
   refine ownBy (A := T1306.setTop (fr_lof1 m b q1 52 (.val (.int (0 : Int32))) (.val (.long (f1 + (0 : Int64)))) .second [(.int (0 : Int32)), (.ref ln)])) (fun t kt => ?_) ?_
   ·refine XS.iloadN X1306.here hx rfl (hb hby d8_51) rfl ?_
    exact kt
   obtain ⟨cl1307, Ar1307, q1307, S1307, N1307, H1307, G1307⟩ := id Al
   have hin1307 : ¬ ((0 : Int32) < 0 ∨ cl1307.slots.size ≤ ((0 : Int32)).toNatClampNeg) := inb_of S1307 ⟨by decide, by decide⟩
   have hat1307 : cl1307.slots[((0 : Int32)).toNatClampNeg]? = some (.long m0) := H1307.at hin1307 rfl
   have st1307 := X1306.laload hx (j := (0 : Int32)) (v := (.long m0)) (by rw [e1306]; exact Ar1307.1) (State.isArrayOf_alike hZ.alike Ar1307.2.1) Ar1307.2.2 hin1307 hat1307 (g := (fr_lof1 m b q1 52 (.val (.int (0 : Int32))) (.val (.long (f1 + (0 : Int64)))) .second [(.int (0 : Int32)), (.ref ln)])) rfl rfl (hb hby d8_52)
   refine ownBy st1307 ?_
   show ownG p.tables e below _ (T1306.setTop (fr_lof1 m b q1 53 (.val (.int (0 : Int32))) (.val (.long (f1 + (0 : Int64)))) .second [(.long m0)]))
   refine ownBy (A := T1306.setTop (fr_lof1 m b q1 55 (.val (.int (0 : Int32))) (.val (.long m0)) .second [(.long m0)])) (fun t kt => ?_) ?_
   ·refine XS.lstoreN X1306.here hx rfl (hb hby d8_53) rfl (l' := #[.val (.ref b), .val (.int q1), .val (.int (0 : Int32)), .val (.long m0), .second]) rfl ?_
    show Steps p.tables e below (T1306.setTop (fr_lof1 m b q1 54 (.val (.int (0 : Int32))) (.val (.long m0)) .second [])) t
    refine XS.lloadN X1306.here hx rfl (hb hby d8_54) rfl ?_
    exact kt
   refine ownRet X1306 Bd.notSynchronized (v := some (.long m0)) (fun h => by rw [Bd.returns] at h; cases h) ?_ (oLe rfl) (oLe rfl) (fun fs hr => retOut X1306 hx Bd.returns rfl (Or.inr (Or.inl ⟨rfl, rfl, _, rfl⟩)) (hb hby d8_55) hr)
   show (Q_lof1 Z b y hh nn ky kh kn z0 m0 f1 lv q1 h0 n0) (some (.long m0)) T1306.heap _
   rw [e1306]
   exact ⟨_, rfl, Nh1303, rfl, ⟨own_eq_nlt hb1301_2_0 hb1301_2_1, rfl⟩⟩
abbrev fr_lof2 (m : MethodId) (b : Addr) (q1 : Int32) (pc : Nat) (x2_ x3_ x4_ : Slot) (st : List Value) : JFrame := mkF m pc #[.val (.ref b), .val (.int q1), x2_, x3_, x4_] st
def Q_lof2 (Z : State) (b : Addr) (y : Addr) (hh : Addr) (nn : Addr) (ky : ClassId) (kh : ClassId) (kn : ClassId) (z0 : Int32) (z1 : Int32) (m0 : Int64) (m1 : Int64) (f1 : Int64) (lv : Value) (q1 : Int32) (h0 : Heap) (n0 : Nat) (v : Option Value) (h : Heap) (L : List Loc) : Prop := ∃ r : Int64, v = some (.long r) ∧ Fr n0 L ∧ h = h0 ∧ ((q1 = z0 ∧ r = m0) ∨ (q1 = z1 ∧ r = m1))
theorem ef_lof2 (m : MethodId) (x0 : Addr) (x1 : Int32)  : entryFrame m #[(.ref x0), (.int x1)] 5 = mkF m 0 #[.val (.ref x0), .val (.int x1), .unset, .unset, .unset] [] := by first | (simp [entryFrame, mkF, argsToLocals, Value.category]; done) | rfl
set_option maxRecDepth 65536 in
set_option maxHeartbeats 40000000 in
theorem c_lof2 (l : Launch) (Z : State) (a0 : Array Value) (hw : ∀ d ∈ tables_1, d.before a0 Z = true) (ws : List Jvm.Cond) (b : Addr) (y : Addr) (hh : Addr) (nn : Addr) (ky : ClassId) (kh : ClassId) (kn : ClassId) (z0 : Int32) (z1 : Int32) (m0 : Int64) (m1 : Int64) (f1 : Int64) (lv : Value) (q1 : Int32) (h0 : Heap) (n0 : Nat) (Z0 : n0 ≤ h0.size) (E1 : Exa Z h0 b "com/example/vestline/vestline/HoursByPlanYear$Builder") (Fy : Fld Z h0 b "com/example/vestline/vestline/HoursByPlanYear$Builder" "years" "[I" (.ref y)) (Fh : Fld Z h0 b "com/example/vestline/vestline/HoursByPlanYear$Builder" "hours" "[Ljava/math/BigDecimal;" (.ref hh)) (Fn : Fld Z h0 b "com/example/vestline/vestline/HoursByPlanYear$Builder" "numbers" "[[J" (.ref nn)) (Fs : Fld Z h0 b "com/example/vestline/vestline/HoursByPlanYear$Builder" "size" "I" (.int (2 : Int32))) (Ff : Fld Z h0 b "com/example/vestline/vestline/HoursByPlanYear$Builder" "firstLine" "J" (.long f1)) (Fl : Fld Z h0 b "com/example/vestline/vestline/HoursByPlanYear$Builder" "lines" "[J" lv) (Ay : Arv Z h0 y ky .int (8 : Int32) [(.int z0), (.int z1), (.int (0 : Int32)), (.int (0 : Int32)), (.int (0 : Int32)), (.int (0 : Int32)), (.int (0 : Int32)), (.int (0 : Int32))] (.int (0 : Int32))) (Ah : Arv Z h0 hh kh (.object "java/math/BigDecimal") (8 : Int32) [.null, .null, .null, .null, .null, .null, .null, .null] .null) (An : Arv Z h0 nn kn (.array .long) (0 : Int32) [] .null) (hLN : ((lv = .null ∧ m0 = f1 + (0 : Int64) ∧ m1 = f1 + (1 : Int64)) ∨ ∃ (l : Addr) (kl : ClassId), lv = .ref l ∧ n0 ≤ l ∧ Arv Z h0 l kl .long (8 : Int32) [(.long m0), (.long m1), (.long (0 : Int64)), (.long (0 : Int64)), (.long (0 : Int64)), (.long (0 : Int64)), (.long (0 : Int64)), (.long (0 : Int64))] (.long (0 : Int64)))) (hs0 : z0 < z1) (hmem : q1 = z0 ∨ q1 = z1) :
  MetFree l (⟨"com/example/vestline/vestline/HoursByPlanYear$Builder", "lineOf", "(I)J"⟩ : MethodName) (head1 (Jvm.Cond.code (⟨"com/example/vestline/vestline/HoursByPlanYear$Builder", "lineOf", "(I)J"⟩ : MethodName) prog_14_method_4_code 5 (some .long) :: ws) ({ frames := 2, cells := 0, slots := 0, locals := 34 } : Room)) (fun a U => a = #[(.ref b), (.int q1)] ∧ Z.Warmed39 U.vm ∧ U.heap = h0) (fun _ _ _ _ _ => True) (fun _ U o U' => ∃ v L, o = .returned v ∧ (Q_lof2 Z b y hh nn ky kh kn z0 z1 m0 m1 f1 lv q1 h0 n0) v U'.heap L ∧ FrameEnd U o U' L ({ frames := 2, cells := 0, slots := 0, locals := 34 } : Room).cells ({ frames := 2, cells := 0, slots := 0, locals := 34 } : Room).slots) := by
 refine MetFree.of_bodySF (plainFor_of_name pn_73) hisR ?_
 intro p e s m args below meth c s₁ Bd hml0 hP hK
 obtain ⟨rfl, hZ, hHp⟩ := hP
 have hx := Bd.exec
 have hby := Bd.bytes
 have hml : c.maxLocals = 5 := hml0
 have hown : s.vm.findClass "com/example/vestline/vestline/HoursByPlanYear$Builder" = some m.cls := findClass_of_methodNamed Bd.named
 have hnm := (name_of_methodNamed Bd.named Bd.method).1
 have X0 : Stand p l e ({ frames := 2, cells := 0, slots := 0, locals := 34 } : Room) s m #[(.ref b), (.int q1)] below meth c s₁ [] 0 0 := Stand.of_body Bd
 have e0 : s₁.heap = h0 := by rw [← hHp, Bd.state]; rfl
 have N0 := Fr.nil n0
 refine ownOut (P := (Q_lof2 Z b y hh nn ky kh kn z0 z1 m0 m1 f1 lv q1 h0 n0)) ?_
 refine ownBy (A := s₁.setTop (mkF m 0 #[.val (.ref b), .val (.int q1), .unset, .unset, .unset] [])) (fun t k => castTop (ef_lof2 m b q1) k) ?_
 rcases hLN with ⟨hlv, hm0, hm1⟩ | ⟨ln, kl, hlv, gl, Al⟩
 ·rw [hlv] at Fl
  refine ownBy (A := s₁.setTop (fr_lof2 m b q1 1 .unset .unset .unset [(.ref b)])) (fun t kt => ?_) ?_
  ·refine XS.aloadN X0.here hx rfl (hb hby d8_0) rfl rfl ?_
   exact kt
  refine own_getF X0 hx hZ hown (host := "") (Or.inl (Wd35 hw)) Via.refl e0 Fy (hb hby d8_1) (fun T1308 X1308 e1308 => ?_)
  refine ownBy (A := T1308.setTop (fr_lof2 m b q1 6 .unset .unset .unset [(.ref b), (.int (0 : Int32)), (.ref y)])) (fun t kt => ?_) ?_
  ·refine XS.iconst X1308.here hx rfl (hb hby d8_4) ?_
   show Steps p.tables e below (T1308.setTop (fr_lof2 m b q1 5 .unset .unset .unset [(.int (0 : Int32)), (.ref y)])) t
   refine XS.aloadN X1308.here hx rfl (hb hby d8_5) rfl rfl ?_
   exact kt
  refine own_getF X1308 hx hZ hown (host := "") (Or.inl (Wd64 hw)) Via.refl e1308 Fs (hb hby d8_6) (fun T1309 X1309 e1309 => ?_)
  refine ownBy (A := T1309.setTop (fr_lof2 m b q1 10 .unset .unset .unset [(.int q1), (.int (2 : Int32)), (.int (0 : Int32)), (.ref y)])) (fun t kt => ?_) ?_
  ·refine XS.iloadN X1309.here hx rfl (hb hby d8_9) rfl ?_
   exact kt
  obtain ⟨vv1310, _, ⟨T1310, L1310, k1310, n1310⟩, -, X1310, ⟨Lc1310, hQ1310, l1310, y1310, z1310⟩, st1310⟩ := Jvm.LawKit.callS X1309 hx (y := (⟨"java/util/Arrays", "binarySearch", "([IIII)I"⟩ : MethodName)) hown (mvT hZ (Wd79 hw)) (mvT hZ (Wd80 hw)) (mvT hZ (Wd81 hw)) (mvT hZ (Wd82 hw)) (by decide) (backOf (W := 0) (c_bs2 l Z a0 hw [] y ky z0 z1 q1 h0 n0 Z0 Ay) hZ (Wd82 hw) (Wd81 hw) (by decide) (by decide)) (g := (fr_lof2 m b q1 10 .unset .unset .unset [(.int q1), (.int (2 : Int32)), (.int (0 : Int32)), (.ref y)])) rfl (by rw [hml]; rfl) (argsL := [(.ref y), (.int (0 : Int32)), (.int (2 : Int32)), (.int q1)]) (rest := []) (lenOf pd_11 rfl) rfl (by show 2 * 0 + _ ≤ _; exact Nat.le_of_eq rfl) (hb hby d8_10) (fun _ _ => ⟨rfl, e1309, (by decide : 0 + 0 ≤ _), (by decide : 0 + 0 ≤ _)⟩)
  dsimp only [Pt.U, Pt.locs, Pt.cells, Pt.slots] at X1310 l1310 y1310 z1310 st1310 hQ1310
  subst l1310 y1310 z1310
  obtain ⟨r1310, rfl, Nq1310, Eq1310, hB1310⟩ := hQ1310
  rcases hB1310 with ⟨hb1310_0_0, hb1310_0_1, rfl⟩ | ⟨hb1310_1_0, hb1310_1_1, hb1310_1_2, rfl⟩ | ⟨hb1310_2_0, hb1310_2_1, hb1310_2_2, rfl⟩ | ⟨hb1310_3_0, hb1310_3_1, rfl⟩ | ⟨hb1310_4_0, hb1310_4_1, rfl⟩
  ·skip
   exfalso
   simp only [Int32.lt_iff_toInt_lt, ← Int32.toInt_inj] at hb1310_0_0 hb1310_0_1 hmem hs0
   omega
  ·skip
   exfalso
   simp only [Int32.lt_iff_toInt_lt, ← Int32.toInt_inj] at hb1310_1_0 hb1310_1_1 hb1310_1_2 hmem hs0
   omega
  ·skip
   have N1311 := Fr.app N0 Nq1310
   obtain ⟨Lh1312, Xh1312, Nh1312⟩ := oHd 0 0 X1310 N1311 rfl rfl
   refine ownBy st1310 ?_
   clear st1310
   show ownG p.tables e below _ (T1310.setTop (fr_lof2 m b q1 13 .unset .unset .unset [(.int (1 : Int32))]))
   refine ownBy (A := T1310.setTop (fr_lof2 m b q1 33 (.val (.int (1 : Int32))) .unset .unset [(.ref b)])) (fun t kt => ?_) ?_
   ·refine XS.istoreN Xh1312.here hx rfl (hb hby d8_13) rfl (l' := #[.val (.ref b), .val (.int q1), .val (.int (1 : Int32)), .unset, .unset]) rfl ?_
    show Steps p.tables e below (T1310.setTop (fr_lof2 m b q1 14 (.val (.int (1 : Int32))) .unset .unset [])) t
    refine XS.iloadN Xh1312.here hx rfl (hb hby d8_14) rfl ?_
    show Steps p.tables e below (T1310.setTop (fr_lof2 m b q1 15 (.val (.int (1 : Int32))) .unset .unset [(.int (1 : Int32))])) t
    refine XS.ifYes Xh1312.here hx rfl (pc0 := 15) (pc' := 32) rfl (hb hby d8_15) rfl ((if0 _ _).trans (flt ((by decide) : ¬ ((1 : Int32) < (0 : Int32)))).2.1) (by decide) (by decide) ?_
    show Steps p.tables e below (T1310.setTop (fr_lof2 m b q1 32 (.val (.int (1 : Int32))) .unset .unset [])) t
    refine XS.aloadN Xh1312.here hx rfl (hb hby d8_32) rfl rfl ?_
    exact kt
   refine own_getF Xh1312 hx hZ hown (host := "") (Or.inl (Wd66 hw)) Via.refl Eq1310 Ff (hb hby d8_33) (fun T1313 X1313 e1313 => ?_)
   refine ownBy (A := T1313.setTop (fr_lof2 m b q1 41 (.val (.int (1 : Int32))) (.val (.long (f1 + (1 : Int64)))) .second [(.ref b)])) (fun t kt => ?_) ?_
   ·refine XS.iloadN X1313.here hx rfl (hb hby d8_36) rfl ?_
    show Steps p.tables e below (T1313.setTop (fr_lof2 m b q1 37 (.val (.int (1 : Int32))) .unset .unset [(.int (1 : Int32)), (.long f1)])) t
    refine XS.i2l X1313.here hx rfl (hb hby d8_37) rfl ?_
    show Steps p.tables e below (T1313.setTop (fr_lof2 m b q1 38 (.val (.int (1 : Int32))) .unset .unset [(.long (1 : Int64)), (.long f1)])) t
    refine XS.ladd X1313.here hx rfl (hb hby d8_38) rfl ?_
    show Steps p.tables e below (T1313.setTop (fr_lof2 m b q1 39 (.val (.int (1 : Int32))) .unset .unset [(.long (f1 + (1 : Int64)))])) t
    refine XS.lstoreN X1313.here hx rfl (hb hby d8_39) rfl (l' := #[.val (.ref b), .val (.int q1), .val (.int (1 : Int32)), .val (.long (f1 + (1 : Int64))), .second]) rfl ?_
    show Steps p.tables e below (T1313.setTop (fr_lof2 m b q1 40 (.val (.int (1 : Int32))) (.val (.long (f1 + (1 : Int64)))) .second [])) t
    refine XS.aloadN X1313.here hx rfl (hb hby d8_40) rfl rfl ?_
    exact kt
   refine own_getF X1313 hx hZ hown (host := "") (Or.inl (Wd72 hw)) Via.refl e1313 Fl (hb hby d8_41) (fun T1314 X1314 e1314 => ?_)
   refine ownBy (A := T1314.setTop (fr_lof2 m b q1 55 (.val (.int (1 : Int32))) (.val (.long (f1 + (1 : Int64)))) .second [(.long (f1 + (1 : Int64)))])) (fun t kt => ?_) ?_
   ·refine XS.ifnullYes X1314.here hx rfl (pc0 := 44) (pc' := 54) rfl (hb hby d8_44) rfl (by decide) (by decide) ?_
    show Steps p.tables e below (T1314.setTop (fr_lof2 m b q1 54 (.val (.int (1 : Int32))) (.val (.long (f1 + (1 : Int64)))) .second [])) t
    refine XS.lloadN X1314.here hx rfl (hb hby d8_54) rfl ?_
    exact kt
   refine ownRet X1314 Bd.notSynchronized (v := some (.long (f1 + (1 : Int64)))) (fun h => by rw [Bd.returns] at h; cases h) ?_ (oLe rfl) (oLe rfl) (fun fs hr => retOut X1314 hx Bd.returns rfl (Or.inr (Or.inl ⟨rfl, rfl, _, rfl⟩)) (hb hby d8_55) hr)
   show (Q_lof2 Z b y hh nn ky kh kn z0 z1 m0 m1 f1 lv q1 h0 n0) (some (.long (f1 + (1 : Int64)))) T1314.heap _
   rw [e1314]
   exact ⟨_, rfl, Nh1312, rfl, Or.inr (⟨own_eq_nlt hb1310_2_1 hb1310_2_2, hm1.symm⟩)⟩
  ·skip
   exfalso
   simp only [Int32.lt_iff_toInt_lt, ← Int32.toInt_inj] at hb1310_3_0 hb1310_3_1 hmem hs0
   omega
  ·skip
   have N1315 := Fr.app N0 Nq1310
   obtain ⟨Lh1316, Xh1316, Nh1316⟩ := oHd 0 0 X1310 N1315 rfl rfl
   refine ownBy st1310 ?_
   clear st1310
   show ownG p.tables e below _ (T1310.setTop (fr_lof2 m b q1 13 .unset .unset .unset [(.int (0 : Int32))]))
   refine ownBy (A := T1310.setTop (fr_lof2 m b q1 33 (.val (.int (0 : Int32))) .unset .unset [(.ref b)])) (fun t kt => ?_) ?_
   ·refine XS.istoreN Xh1316.here hx rfl (hb hby d8_13) rfl (l' := #[.val (.ref b), .val (.int q1), .val (.int (0 : Int32)), .unset, .unset]) rfl ?_
    show Steps p.tables e below (T1310.setTop (fr_lof2 m b q1 14 (.val (.int (0 : Int32))) .unset .unset [])) t
    refine XS.iloadN Xh1316.here hx rfl (hb hby d8_14) rfl ?_
    show Steps p.tables e below (T1310.setTop (fr_lof2 m b q1 15 (.val (.int (0 : Int32))) .unset .unset [(.int (0 : Int32))])) t
    refine XS.ifYes Xh1316.here hx rfl (pc0 := 15) (pc' := 32) rfl (hb hby d8_15) rfl ((if0 _ _).trans (flt ((by decide) : ¬ ((0 : Int32) < (0 : Int32)))).2.1) (by decide) (by decide) ?_
    show Steps p.tables e below (T1310.setTop (fr_lof2 m b q1 32 (.val (.int (0 : Int32))) .unset .unset [])) t
    refine XS.aloadN Xh1316.here hx rfl (hb hby d8_32) rfl rfl ?_
    exact kt
   refine own_getF Xh1316 hx hZ hown (host := "") (Or.inl (Wd66 hw)) Via.refl Eq1310 Ff (hb hby d8_33) (fun T1317 X1317 e1317 => ?_)
   refine ownBy (A := T1317.setTop (fr_lof2 m b q1 41 (.val (.int (0 : Int32))) (.val (.long (f1 + (0 : Int64)))) .second [(.ref b)])) (fun t kt => ?_) ?_
   ·refine XS.iloadN X1317.here hx rfl (hb hby d8_36) rfl ?_
    show Steps p.tables e below (T1317.setTop (fr_lof2 m b q1 37 (.val (.int (0 : Int32))) .unset .unset [(.int (0 : Int32)), (.long f1)])) t
    refine XS.i2l X1317.here hx rfl (hb hby d8_37) rfl ?_
    show Steps p.tables e below (T1317.setTop (fr_lof2 m b q1 38 (.val (.int (0 : Int32))) .unset .unset [(.long (0 : Int64)), (.long f1)])) t
    refine XS.ladd X1317.here hx rfl (hb hby d8_38) rfl ?_
    show Steps p.tables e below (T1317.setTop (fr_lof2 m b q1 39 (.val (.int (0 : Int32))) .unset .unset [(.long (f1 + (0 : Int64)))])) t
    refine XS.lstoreN X1317.here hx rfl (hb hby d8_39) rfl (l' := #[.val (.ref b), .val (.int q1), .val (.int (0 : Int32)), .val (.long (f1 + (0 : Int64))), .second]) rfl ?_
    show Steps p.tables e below (T1317.setTop (fr_lof2 m b q1 40 (.val (.int (0 : Int32))) (.val (.long (f1 + (0 : Int64)))) .second [])) t
    refine XS.aloadN X1317.here hx rfl (hb hby d8_40) rfl rfl ?_
    exact kt
   refine own_getF X1317 hx hZ hown (host := "") (Or.inl (Wd72 hw)) Via.refl e1317 Fl (hb hby d8_41) (fun T1318 X1318 e1318 => ?_)
   refine ownBy (A := T1318.setTop (fr_lof2 m b q1 55 (.val (.int (0 : Int32))) (.val (.long (f1 + (0 : Int64)))) .second [(.long (f1 + (0 : Int64)))])) (fun t kt => ?_) ?_
   ·refine XS.ifnullYes X1318.here hx rfl (pc0 := 44) (pc' := 54) rfl (hb hby d8_44) rfl (by decide) (by decide) ?_
    show Steps p.tables e below (T1318.setTop (fr_lof2 m b q1 54 (.val (.int (0 : Int32))) (.val (.long (f1 + (0 : Int64)))) .second [])) t
    refine XS.lloadN X1318.here hx rfl (hb hby d8_54) rfl ?_
    exact kt
   refine ownRet X1318 Bd.notSynchronized (v := some (.long (f1 + (0 : Int64)))) (fun h => by rw [Bd.returns] at h; cases h) ?_ (oLe rfl) (oLe rfl) (fun fs hr => retOut X1318 hx Bd.returns rfl (Or.inr (Or.inl ⟨rfl, rfl, _, rfl⟩)) (hb hby d8_55) hr)
   show (Q_lof2 Z b y hh nn ky kh kn z0 z1 m0 m1 f1 lv q1 h0 n0) (some (.long (f1 + (0 : Int64)))) T1318.heap _
   rw [e1318]
   exact ⟨_, rfl, Nh1316, rfl, Or.inl ⟨own_eq_nlt hb1310_4_0 hb1310_4_1, hm0.symm⟩⟩
 ·rw [hlv] at Fl
  refine ownBy (A := s₁.setTop (fr_lof2 m b q1 1 .unset .unset .unset [(.ref b)])) (fun t kt => ?_) ?_
  ·refine XS.aloadN X0.here hx rfl (hb hby d8_0) rfl rfl ?_
   exact kt
  refine own_getF X0 hx hZ hown (host := "") (Or.inl (Wd35 hw)) Via.refl e0 Fy (hb hby d8_1) (fun T1319 X1319 e1319 => ?_)
  refine ownBy (A := T1319.setTop (fr_lof2 m b q1 6 .unset .unset .unset [(.ref b), (.int (0 : Int32)), (.ref y)])) (fun t kt => ?_) ?_
  ·refine XS.iconst X1319.here hx rfl (hb hby d8_4) ?_
   show Steps p.tables e below (T1319.setTop (fr_lof2 m b q1 5 .unset .unset .unset [(.int (0 : Int32)), (.ref y)])) t
   refine XS.aloadN X1319.here hx rfl (hb hby d8_5) rfl rfl ?_
   exact kt
  refine own_getF X1319 hx hZ hown (host := "") (Or.inl (Wd64 hw)) Via.refl e1319 Fs (hb hby d8_6) (fun T1320 X1320 e1320 => ?_)
  refine ownBy (A := T1320.setTop (fr_lof2 m b q1 10 .unset .unset .unset [(.int q1), (.int (2 : Int32)), (.int (0 : Int32)), (.ref y)])) (fun t kt => ?_) ?_
  ·refine XS.iloadN X1320.here hx rfl (hb hby d8_9) rfl ?_
   exact kt
  obtain ⟨vv1321, _, ⟨T1321, L1321, k1321, n1321⟩, -, X1321, ⟨Lc1321, hQ1321, l1321, y1321, z1321⟩, st1321⟩ := Jvm.LawKit.callS X1320 hx (y := (⟨"java/util/Arrays", "binarySearch", "([IIII)I"⟩ : MethodName)) hown (mvT hZ (Wd79 hw)) (mvT hZ (Wd80 hw)) (mvT hZ (Wd81 hw)) (mvT hZ (Wd82 hw)) (by decide) (backOf (W := 0) (c_bs2 l Z a0 hw [] y ky z0 z1 q1 h0 n0 Z0 Ay) hZ (Wd82 hw) (Wd81 hw) (by decide) (by decide)) (g := (fr_lof2 m b q1 10 .unset .unset .unset [(.int q1), (.int (2 : Int32)), (.int (0 : Int32)), (.ref y)])) rfl (by rw [hml]; rfl) (argsL := [(.ref y), (.int (0 : Int32)), (.int (2 : Int32)), (.int q1)]) (rest := []) (lenOf pd_11 rfl) rfl (by show 2 * 0 + _ ≤ _; exact Nat.le_of_eq rfl) (hb hby d8_10) (fun _ _ => ⟨rfl, e1320, (by decide : 0 + 0 ≤ _), (by decide : 0 + 0 ≤ _)⟩)
  dsimp only [Pt.U, Pt.locs, Pt.cells, Pt.slots] at X1321 l1321 y1321 z1321 st1321 hQ1321
  subst l1321 y1321 z1321
  obtain ⟨r1321, rfl, Nq1321, Eq1321, hB1321⟩ := hQ1321
  rcases hB1321 with ⟨hb1321_0_0, hb1321_0_1, rfl⟩ | ⟨hb1321_1_0, hb1321_1_1, hb1321_1_2, rfl⟩ | ⟨hb1321_2_0, hb1321_2_1, hb1321_2_2, rfl⟩ | ⟨hb1321_3_0, hb1321_3_1, rfl⟩ | ⟨hb1321_4_0, hb1321_4_1, rfl⟩
  ·skip
   exfalso
   simp only [Int32.lt_iff_toInt_lt, ← Int32.toInt_inj] at hb1321_0_0 hb1321_0_1 hmem hs0
   omega
  ·skip
   exfalso
   simp only [Int32.lt_iff_toInt_lt, ← Int32.toInt_inj] at hb1321_1_0 hb1321_1_1 hb1321_1_2 hmem hs0
   omega
  ·skip
   have N1322 := Fr.app N0 Nq1321
   obtain ⟨Lh1323, Xh1323, Nh1323⟩ := oHd 0 0 X1321 N1322 rfl rfl
   refine ownBy st1321 ?_
   clear st1321
   show ownG p.tables e below _ (T1321.setTop (fr_lof2 m b q1 13 .unset .unset .unset [(.int (1 : Int32))]))
   refine ownBy (A := T1321.setTop (fr_lof2 m b q1 33 (.val (.int (1 : Int32))) .unset .unset [(.ref b)])) (fun t kt => ?_) ?_
   ·refine XS.istoreN Xh1323.here hx rfl (hb hby d8_13) rfl (l' := #[.val (.ref b), .val (.int q1), .val (.int (1 : Int32)), .unset, .unset]) rfl ?_
    show Steps p.tables e below (T1321.setTop (fr_lof2 m b q1 14 (.val (.int (1 : Int32))) .unset .unset [])) t
    refine XS.iloadN Xh1323.here hx rfl (hb hby d8_14) rfl ?_
    show Steps p.tables e below (T1321.setTop (fr_lof2 m b q1 15 (.val (.int (1 : Int32))) .unset .unset [(.int (1 : Int32))])) t
    refine XS.ifYes Xh1323.here hx rfl (pc0 := 15) (pc' := 32) rfl (hb hby d8_15) rfl ((if0 _ _).trans (flt ((by decide) : ¬ ((1 : Int32) < (0 : Int32)))).2.1) (by decide) (by decide) ?_
    show Steps p.tables e below (T1321.setTop (fr_lof2 m b q1 32 (.val (.int (1 : Int32))) .unset .unset [])) t
    refine XS.aloadN Xh1323.here hx rfl (hb hby d8_32) rfl rfl ?_
    exact kt
   refine own_getF Xh1323 hx hZ hown (host := "") (Or.inl (Wd66 hw)) Via.refl Eq1321 Ff (hb hby d8_33) (fun T1324 X1324 e1324 => ?_)
   refine ownBy (A := T1324.setTop (fr_lof2 m b q1 41 (.val (.int (1 : Int32))) (.val (.long (f1 + (1 : Int64)))) .second [(.ref b)])) (fun t kt => ?_) ?_
   ·refine XS.iloadN X1324.here hx rfl (hb hby d8_36) rfl ?_
    show Steps p.tables e below (T1324.setTop (fr_lof2 m b q1 37 (.val (.int (1 : Int32))) .unset .unset [(.int (1 : Int32)), (.long f1)])) t
    refine XS.i2l X1324.here hx rfl (hb hby d8_37) rfl ?_
    show Steps p.tables e below (T1324.setTop (fr_lof2 m b q1 38 (.val (.int (1 : Int32))) .unset .unset [(.long (1 : Int64)), (.long f1)])) t
    refine XS.ladd X1324.here hx rfl (hb hby d8_38) rfl ?_
    show Steps p.tables e below (T1324.setTop (fr_lof2 m b q1 39 (.val (.int (1 : Int32))) .unset .unset [(.long (f1 + (1 : Int64)))])) t
    refine XS.lstoreN X1324.here hx rfl (hb hby d8_39) rfl (l' := #[.val (.ref b), .val (.int q1), .val (.int (1 : Int32)), .val (.long (f1 + (1 : Int64))), .second]) rfl ?_
    show Steps p.tables e below (T1324.setTop (fr_lof2 m b q1 40 (.val (.int (1 : Int32))) (.val (.long (f1 + (1 : Int64)))) .second [])) t
    refine XS.aloadN X1324.here hx rfl (hb hby d8_40) rfl rfl ?_
    exact kt
   refine own_getF X1324 hx hZ hown (host := "") (Or.inl (Wd72 hw)) Via.refl e1324 Fl (hb hby d8_41) (fun T1325 X1325 e1325 => ?_)
   refine ownBy (A := T1325.setTop (fr_lof2 m b q1 48 (.val (.int (1 : Int32))) (.val (.long (f1 + (1 : Int64)))) .second [(.ref b)])) (fun t kt => ?_) ?_
   ·refine XS.ifnullNo X1325.here hx rfl (hb hby d8_44) rfl ?_
    show Steps p.tables e below (T1325.setTop (fr_lof2 m b q1 47 (.val (.int (1 : Int32))) (.val (.long (f1 + (1 : Int64)))) .second [])) t
    refine XS.aloadN X1325.here hx rfl (hb hby d8_47) rfl rfl ?_
    exact kt
   refine own_getF X1325 hx hZ hown (host := "") (Or.inl (Wd72 hw)) Via.refl e1325 Fl (hb hby d8_48) (fun T1326 X1326 e1326 => ?_)
   refine ownBy (A := T1326.setTop (fr_lof2 m b q1 52 (.val (.int (1 : Int32))) (.val (.long (f1 + (1 : Int64)))) .second [(.int (1 : Int32)), (.ref ln)])) (fun t kt => ?_) ?_
   ·refine XS.iloadN X1326.here hx rfl (hb hby d8_51) rfl ?_
    exact kt
   obtain ⟨cl1327, Ar1327, q1327, S1327, N1327, H1327, G1327⟩ := id Al
   have hin1327 : ¬ ((1 : Int32) < 0 ∨ cl1327.slots.size ≤ ((1 : Int32)).toNatClampNeg) := inb_of S1327 ⟨by decide, by decide⟩
   have hat1327 : cl1327.slots[((1 : Int32)).toNatClampNeg]? = some (.long m1) := H1327.at hin1327 rfl
   have st1327 := X1326.laload hx (j := (1 : Int32)) (v := (.long m1)) (by rw [e1326]; exact Ar1327.1) (State.isArrayOf_alike hZ.alike Ar1327.2.1) Ar1327.2.2 hin1327 hat1327 (g := (fr_lof2 m b q1 52 (.val (.int (1 : Int32))) (.val (.long (f1 + (1 : Int64)))) .second [(.int (1 : Int32)), (.ref ln)])) rfl rfl (hb hby d8_52)
   refine ownBy st1327 ?_
   show ownG p.tables e below _ (T1326.setTop (fr_lof2 m b q1 53 (.val (.int (1 : Int32))) (.val (.long (f1 + (1 : Int64)))) .second [(.long m1)]))
   refine ownBy (A := T1326.setTop (fr_lof2 m b q1 55 (.val (.int (1 : Int32))) (.val (.long m1)) .second [(.long m1)])) (fun t kt => ?_) ?_
   ·refine XS.lstoreN X1326.here hx rfl (hb hby d8_53) rfl (l' := #[.val (.ref b), .val (.int q1), .val (.int (1 : Int32)), .val (.long m1), .second]) rfl ?_
    show Steps p.tables e below (T1326.setTop (fr_lof2 m b q1 54 (.val (.int (1 : Int32))) (.val (.long m1)) .second [])) t
    refine XS.lloadN X1326.here hx rfl (hb hby d8_54) rfl ?_
    exact kt
   refine ownRet X1326 Bd.notSynchronized (v := some (.long m1)) (fun h => by rw [Bd.returns] at h; cases h) ?_ (oLe rfl) (oLe rfl) (fun fs hr => retOut X1326 hx Bd.returns rfl (Or.inr (Or.inl ⟨rfl, rfl, _, rfl⟩)) (hb hby d8_55) hr)
   show (Q_lof2 Z b y hh nn ky kh kn z0 z1 m0 m1 f1 lv q1 h0 n0) (some (.long m1)) T1326.heap _
   rw [e1326]
   exact ⟨_, rfl, Nh1323, rfl, Or.inr (⟨own_eq_nlt hb1321_2_1 hb1321_2_2, rfl⟩)⟩
  ·skip
   exfalso
   simp only [Int32.lt_iff_toInt_lt, ← Int32.toInt_inj] at hb1321_3_0 hb1321_3_1 hmem hs0
   omega
  ·skip
   have N1328 := Fr.app N0 Nq1321
   obtain ⟨Lh1329, Xh1329, Nh1329⟩ := oHd 0 0 X1321 N1328 rfl rfl
   refine ownBy st1321 ?_
   clear st1321
   show ownG p.tables e below _ (T1321.setTop (fr_lof2 m b q1 13 .unset .unset .unset [(.int (0 : Int32))]))
   refine ownBy (A := T1321.setTop (fr_lof2 m b q1 33 (.val (.int (0 : Int32))) .unset .unset [(.ref b)])) (fun t kt => ?_) ?_
   ·refine XS.istoreN Xh1329.here hx rfl (hb hby d8_13) rfl (l' := #[.val (.ref b), .val (.int q1), .val (.int (0 : Int32)), .unset, .unset]) rfl ?_
    show Steps p.tables e below (T1321.setTop (fr_lof2 m b q1 14 (.val (.int (0 : Int32))) .unset .unset [])) t
    refine XS.iloadN Xh1329.here hx rfl (hb hby d8_14) rfl ?_
    show Steps p.tables e below (T1321.setTop (fr_lof2 m b q1 15 (.val (.int (0 : Int32))) .unset .unset [(.int (0 : Int32))])) t
    refine XS.ifYes Xh1329.here hx rfl (pc0 := 15) (pc' := 32) rfl (hb hby d8_15) rfl ((if0 _ _).trans (flt ((by decide) : ¬ ((0 : Int32) < (0 : Int32)))).2.1) (by decide) (by decide) ?_
    show Steps p.tables e below (T1321.setTop (fr_lof2 m b q1 32 (.val (.int (0 : Int32))) .unset .unset [])) t
    refine XS.aloadN Xh1329.here hx rfl (hb hby d8_32) rfl rfl ?_
    exact kt
   refine own_getF Xh1329 hx hZ hown (host := "") (Or.inl (Wd66 hw)) Via.refl Eq1321 Ff (hb hby d8_33) (fun T1330 X1330 e1330 => ?_)
   refine ownBy (A := T1330.setTop (fr_lof2 m b q1 41 (.val (.int (0 : Int32))) (.val (.long (f1 + (0 : Int64)))) .second [(.ref b)])) (fun t kt => ?_) ?_
   ·refine XS.iloadN X1330.here hx rfl (hb hby d8_36) rfl ?_
    show Steps p.tables e below (T1330.setTop (fr_lof2 m b q1 37 (.val (.int (0 : Int32))) .unset .unset [(.int (0 : Int32)), (.long f1)])) t
    refine XS.i2l X1330.here hx rfl (hb hby d8_37) rfl ?_
    show Steps p.tables e below (T1330.setTop (fr_lof2 m b q1 38 (.val (.int (0 : Int32))) .unset .unset [(.long (0 : Int64)), (.long f1)])) t
    refine XS.ladd X1330.here hx rfl (hb hby d8_38) rfl ?_
    show Steps p.tables e below (T1330.setTop (fr_lof2 m b q1 39 (.val (.int (0 : Int32))) .unset .unset [(.long (f1 + (0 : Int64)))])) t
    refine XS.lstoreN X1330.here hx rfl (hb hby d8_39) rfl (l' := #[.val (.ref b), .val (.int q1), .val (.int (0 : Int32)), .val (.long (f1 + (0 : Int64))), .second]) rfl ?_
    show Steps p.tables e below (T1330.setTop (fr_lof2 m b q1 40 (.val (.int (0 : Int32))) (.val (.long (f1 + (0 : Int64)))) .second [])) t
    refine XS.aloadN X1330.here hx rfl (hb hby d8_40) rfl rfl ?_
    exact kt
   refine own_getF X1330 hx hZ hown (host := "") (Or.inl (Wd72 hw)) Via.refl e1330 Fl (hb hby d8_41) (fun T1331 X1331 e1331 => ?_)
   refine ownBy (A := T1331.setTop (fr_lof2 m b q1 48 (.val (.int (0 : Int32))) (.val (.long (f1 + (0 : Int64)))) .second [(.ref b)])) (fun t kt => ?_) ?_
   ·refine XS.ifnullNo X1331.here hx rfl (hb hby d8_44) rfl ?_
    show Steps p.tables e below (T1331.setTop (fr_lof2 m b q1 47 (.val (.int (0 : Int32))) (.val (.long (f1 + (0 : Int64)))) .second [])) t
    refine XS.aloadN X1331.here hx rfl (hb hby d8_47) rfl rfl ?_
    exact kt
   refine own_getF X1331 hx hZ hown (host := "") (Or.inl (Wd72 hw)) Via.refl e1331 Fl (hb hby d8_48) (fun T1332 X1332 e1332 => ?_)
   refine ownBy (A := T1332.setTop (fr_lof2 m b q1 52 (.val (.int (0 : Int32))) (.val (.long (f1 + (0 : Int64)))) .second [(.int (0 : Int32)), (.ref ln)])) (fun t kt => ?_) ?_
   ·refine XS.iloadN X1332.here hx rfl (hb hby d8_51) rfl ?_
    exact kt
   obtain ⟨cl1333, Ar1333, q1333, S1333, N1333, H1333, G1333⟩ := id Al
   have hin1333 : ¬ ((0 : Int32) < 0 ∨ cl1333.slots.size ≤ ((0 : Int32)).toNatClampNeg) := inb_of S1333 ⟨by decide, by decide⟩
   have hat1333 : cl1333.slots[((0 : Int32)).toNatClampNeg]? = some (.long m0) := H1333.at hin1333 rfl
   have st1333 := X1332.laload hx (j := (0 : Int32)) (v := (.long m0)) (by rw [e1332]; exact Ar1333.1) (State.isArrayOf_alike hZ.alike Ar1333.2.1) Ar1333.2.2 hin1333 hat1333 (g := (fr_lof2 m b q1 52 (.val (.int (0 : Int32))) (.val (.long (f1 + (0 : Int64)))) .second [(.int (0 : Int32)), (.ref ln)])) rfl rfl (hb hby d8_52)
   refine ownBy st1333 ?_
   show ownG p.tables e below _ (T1332.setTop (fr_lof2 m b q1 53 (.val (.int (0 : Int32))) (.val (.long (f1 + (0 : Int64)))) .second [(.long m0)]))
   refine ownBy (A := T1332.setTop (fr_lof2 m b q1 55 (.val (.int (0 : Int32))) (.val (.long m0)) .second [(.long m0)])) (fun t kt => ?_) ?_
   ·refine XS.lstoreN X1332.here hx rfl (hb hby d8_53) rfl (l' := #[.val (.ref b), .val (.int q1), .val (.int (0 : Int32)), .val (.long m0), .second]) rfl ?_
    show Steps p.tables e below (T1332.setTop (fr_lof2 m b q1 54 (.val (.int (0 : Int32))) (.val (.long m0)) .second [])) t
    refine XS.lloadN X1332.here hx rfl (hb hby d8_54) rfl ?_
    exact kt
   refine ownRet X1332 Bd.notSynchronized (v := some (.long m0)) (fun h => by rw [Bd.returns] at h; cases h) ?_ (oLe rfl) (oLe rfl) (fun fs hr => retOut X1332 hx Bd.returns rfl (Or.inr (Or.inl ⟨rfl, rfl, _, rfl⟩)) (hb hby d8_55) hr)
   show (Q_lof2 Z b y hh nn ky kh kn z0 z1 m0 m1 f1 lv q1 h0 n0) (some (.long m0)) T1332.heap _
   rw [e1332]
   exact ⟨_, rfl, Nh1329, rfl, Or.inl ⟨own_eq_nlt hb1321_4_0 hb1321_4_1, rfl⟩⟩
abbrev fr_lof3 (m : MethodId) (b : Addr) (q1 : Int32) (pc : Nat) (x2_ x3_ x4_ : Slot) (st : List Value) : JFrame := mkF m pc #[.val (.ref b), .val (.int q1), x2_, x3_, x4_] st
def Q_lof3 (Z : State) (b : Addr) (y : Addr) (hh : Addr) (nn : Addr) (ky : ClassId) (kh : ClassId) (kn : ClassId) (z0 : Int32) (z1 : Int32) (z2 : Int32) (m0 : Int64) (m1 : Int64) (m2 : Int64) (f1 : Int64) (lv : Value) (q1 : Int32) (h0 : Heap) (n0 : Nat) (v : Option Value) (h : Heap) (L : List Loc) : Prop := ∃ r : Int64, v = some (.long r) ∧ Fr n0 L ∧ h = h0 ∧ ((q1 = z0 ∧ r = m0) ∨ (q1 = z1 ∧ r = m1) ∨ (q1 = z2 ∧ r = m2))
theorem ef_lof3 (m : MethodId) (x0 : Addr) (x1 : Int32)  : entryFrame m #[(.ref x0), (.int x1)] 5 = mkF m 0 #[.val (.ref x0), .val (.int x1), .unset, .unset, .unset] [] := by first | (simp [entryFrame, mkF, argsToLocals, Value.category]; done) | rfl
set_option maxRecDepth 65536 in
set_option maxHeartbeats 40000000 in
theorem c_lof3 (l : Launch) (Z : State) (a0 : Array Value) (hw : ∀ d ∈ tables_1, d.before a0 Z = true) (ws : List Jvm.Cond) (b : Addr) (y : Addr) (hh : Addr) (nn : Addr) (ky : ClassId) (kh : ClassId) (kn : ClassId) (z0 : Int32) (z1 : Int32) (z2 : Int32) (m0 : Int64) (m1 : Int64) (m2 : Int64) (f1 : Int64) (lv : Value) (q1 : Int32) (h0 : Heap) (n0 : Nat) (Z0 : n0 ≤ h0.size) (E1 : Exa Z h0 b "com/example/vestline/vestline/HoursByPlanYear$Builder") (Fy : Fld Z h0 b "com/example/vestline/vestline/HoursByPlanYear$Builder" "years" "[I" (.ref y)) (Fh : Fld Z h0 b "com/example/vestline/vestline/HoursByPlanYear$Builder" "hours" "[Ljava/math/BigDecimal;" (.ref hh)) (Fn : Fld Z h0 b "com/example/vestline/vestline/HoursByPlanYear$Builder" "numbers" "[[J" (.ref nn)) (Fs : Fld Z h0 b "com/example/vestline/vestline/HoursByPlanYear$Builder" "size" "I" (.int (3 : Int32))) (Ff : Fld Z h0 b "com/example/vestline/vestline/HoursByPlanYear$Builder" "firstLine" "J" (.long f1)) (Fl : Fld Z h0 b "com/example/vestline/vestline/HoursByPlanYear$Builder" "lines" "[J" lv) (Ay : Arv Z h0 y ky .int (8 : Int32) [(.int z0), (.int z1), (.int z2), (.int (0 : Int32)), (.int (0 : Int32)), (.int (0 : Int32)), (.int (0 : Int32)), (.int (0 : Int32))] (.int (0 : Int32))) (Ah : Arv Z h0 hh kh (.object "java/math/BigDecimal") (8 : Int32) [.null, .null, .null, .null, .null, .null, .null, .null] .null) (An : Arv Z h0 nn kn (.array .long) (0 : Int32) [] .null) (hLN : ((lv = .null ∧ m0 = f1 + (0 : Int64) ∧ m1 = f1 + (1 : Int64) ∧ m2 = f1 + (2 : Int64)) ∨ ∃ (l : Addr) (kl : ClassId), lv = .ref l ∧ n0 ≤ l ∧ Arv Z h0 l kl .long (8 : Int32) [(.long m0), (.long m1), (.long m2), (.long (0 : Int64)), (.long (0 : Int64)), (.long (0 : Int64)), (.long (0 : Int64)), (.long (0 : Int64))] (.long (0 : Int64)))) (hs0 : z0 < z1) (hs1 : z1 < z2) (hmem : q1 = z0 ∨ q1 = z1 ∨ q1 = z2) :
  MetFree l (⟨"com/example/vestline/vestline/HoursByPlanYear$Builder", "lineOf", "(I)J"⟩ : MethodName) (head1 (Jvm.Cond.code (⟨"com/example/vestline/vestline/HoursByPlanYear$Builder", "lineOf", "(I)J"⟩ : MethodName) prog_14_method_4_code 5 (some .long) :: ws) ({ frames := 2, cells := 0, slots := 0, locals := 34 } : Room)) (fun a U => a = #[(.ref b), (.int q1)] ∧ Z.Warmed39 U.vm ∧ U.heap = h0) (fun _ _ _ _ _ => True) (fun _ U o U' => ∃ v L, o = .returned v ∧ (Q_lof3 Z b y hh nn ky kh kn z0 z1 z2 m0 m1 m2 f1 lv q1 h0 n0) v U'.heap L ∧ FrameEnd U o U' L ({ frames := 2, cells := 0, slots := 0, locals := 34 } : Room).cells ({ frames := 2, cells := 0, slots := 0, locals := 34 } : Room).slots) := by
 refine MetFree.of_bodySF (plainFor_of_name pn_73) hisR ?_
 intro p e s m args below meth c s₁ Bd hml0 hP hK
 obtain ⟨rfl, hZ, hHp⟩ := hP
 have hx := Bd.exec
 have hby := Bd.bytes
 have hml : c.maxLocals = 5 := hml0
 have hown : s.vm.findClass "com/example/vestline/vestline/HoursByPlanYear$Builder" = some m.cls := findClass_of_methodNamed Bd.named
 have hnm := (name_of_methodNamed Bd.named Bd.method).1
 have X0 : Stand p l e ({ frames := 2, cells := 0, slots := 0, locals := 34 } : Room) s m #[(.ref b), (.int q1)] below meth c s₁ [] 0 0 := Stand.of_body Bd
 have e0 : s₁.heap = h0 := by rw [← hHp, Bd.state]; rfl
 have N0 := Fr.nil n0
 refine ownOut (P := (Q_lof3 Z b y hh nn ky kh kn z0 z1 z2 m0 m1 m2 f1 lv q1 h0 n0)) ?_
 refine ownBy (A := s₁.setTop (mkF m 0 #[.val (.ref b), .val (.int q1), .unset, .unset, .unset] [])) (fun t k => castTop (ef_lof3 m b q1) k) ?_
 rcases hLN with ⟨hlv, hm0, hm1, hm2⟩ | ⟨ln, kl, hlv, gl, Al⟩
 ·rw [hlv] at Fl
  refine ownBy (A := s₁.setTop (fr_lof3 m b q1 1 .unset .unset .unset [(.ref b)])) (fun t kt => ?_) ?_
  ·refine XS.aloadN X0.here hx rfl (hb hby d8_0) rfl rfl ?_
   exact kt
  refine own_getF X0 hx hZ hown (host := "") (Or.inl (Wd35 hw)) Via.refl e0 Fy (hb hby d8_1) (fun T1334 X1334 e1334 => ?_)
  refine ownBy (A := T1334.setTop (fr_lof3 m b q1 6 .unset .unset .unset [(.ref b), (.int (0 : Int32)), (.ref y)])) (fun t kt => ?_) ?_
  ·refine XS.iconst X1334.here hx rfl (hb hby d8_4) ?_
   show Steps p.tables e below (T1334.setTop (fr_lof3 m b q1 5 .unset .unset .unset [(.int (0 : Int32)), (.ref y)])) t
   refine XS.aloadN X1334.here hx rfl (hb hby d8_5) rfl rfl ?_
   exact kt
  refine own_getF X1334 hx hZ hown (host := "") (Or.inl (Wd64 hw)) Via.refl e1334 Fs (hb hby d8_6) (fun T1335 X1335 e1335 => ?_)
  refine ownBy (A := T1335.setTop (fr_lof3 m b q1 10 .unset .unset .unset [(.int q1), (.int (3 : Int32)), (.int (0 : Int32)), (.ref y)])) (fun t kt => ?_) ?_
  ·refine XS.iloadN X1335.here hx rfl (hb hby d8_9) rfl ?_
   exact kt
  obtain ⟨vv1336, _, ⟨T1336, L1336, k1336, n1336⟩, -, X1336, ⟨Lc1336, hQ1336, l1336, y1336, z1336⟩, st1336⟩ := Jvm.LawKit.callS X1335 hx (y := (⟨"java/util/Arrays", "binarySearch", "([IIII)I"⟩ : MethodName)) hown (mvT hZ (Wd79 hw)) (mvT hZ (Wd80 hw)) (mvT hZ (Wd81 hw)) (mvT hZ (Wd82 hw)) (by decide) (backOf (W := 0) (c_bs3 l Z a0 hw [] y ky z0 z1 z2 q1 h0 n0 Z0 Ay) hZ (Wd82 hw) (Wd81 hw) (by decide) (by decide)) (g := (fr_lof3 m b q1 10 .unset .unset .unset [(.int q1), (.int (3 : Int32)), (.int (0 : Int32)), (.ref y)])) rfl (by rw [hml]; rfl) (argsL := [(.ref y), (.int (0 : Int32)), (.int (3 : Int32)), (.int q1)]) (rest := []) (lenOf pd_11 rfl) rfl (by show 2 * 0 + _ ≤ _; exact Nat.le_of_eq rfl) (hb hby d8_10) (fun _ _ => ⟨rfl, e1335, (by decide : 0 + 0 ≤ _), (by decide : 0 + 0 ≤ _)⟩)
  dsimp only [Pt.U, Pt.locs, Pt.cells, Pt.slots] at X1336 l1336 y1336 z1336 st1336 hQ1336
  subst l1336 y1336 z1336
  obtain ⟨r1336, rfl, Nq1336, Eq1336, hB1336⟩ := hQ1336
  rcases hB1336 with ⟨hb1336_0_0, hb1336_0_1, rfl⟩ | ⟨hb1336_1_0, hb1336_1_1, hb1336_1_2, rfl⟩ | ⟨hb1336_2_0, hb1336_2_1, hb1336_2_2, rfl⟩ | ⟨hb1336_3_0, hb1336_3_1, hb1336_3_2, rfl⟩ | ⟨hb1336_4_0, hb1336_4_1, hb1336_4_2, hb1336_4_3, rfl⟩ | ⟨hb1336_5_0, hb1336_5_1, hb1336_5_2, hb1336_5_3, rfl⟩ | ⟨hb1336_6_0, hb1336_6_1, rfl⟩
  ·skip
   exfalso
   simp only [Int32.lt_iff_toInt_lt, ← Int32.toInt_inj] at hb1336_0_0 hb1336_0_1 hmem hs0 hs1
   omega
  ·skip
   exfalso
   simp only [Int32.lt_iff_toInt_lt, ← Int32.toInt_inj] at hb1336_1_0 hb1336_1_1 hb1336_1_2 hmem hs0 hs1
   omega
  ·skip
   have N1337 := Fr.app N0 Nq1336
   obtain ⟨Lh1338, Xh1338, Nh1338⟩ := oHd 0 0 X1336 N1337 rfl rfl
   refine ownBy st1336 ?_
   clear st1336
   show ownG p.tables e below _ (T1336.setTop (fr_lof3 m b q1 13 .unset .unset .unset [(.int (2 : Int32))]))
   refine ownBy (A := T1336.setTop (fr_lof3 m b q1 33 (.val (.int (2 : Int32))) .unset .unset [(.ref b)])) (fun t kt => ?_) ?_
   ·refine XS.istoreN Xh1338.here hx rfl (hb hby d8_13) rfl (l' := #[.val (.ref b), .val (.int q1), .val (.int (2 : Int32)), .unset, .unset]) rfl ?_
    show Steps p.tables e below (T1336.setTop (fr_lof3 m b q1 14 (.val (.int (2 : Int32))) .unset .unset [])) t
    refine XS.iloadN Xh1338.here hx rfl (hb hby d8_14) rfl ?_
    show Steps p.tables e below (T1336.setTop (fr_lof3 m b q1 15 (.val (.int (2 : Int32))) .unset .unset [(.int (2 : Int32))])) t
    refine XS.ifYes Xh1338.here hx rfl (pc0 := 15) (pc' := 32) rfl (hb hby d8_15) rfl ((if0 _ _).trans (flt ((by decide) : ¬ ((2 : Int32) < (0 : Int32)))).2.1) (by decide) (by decide) ?_
    show Steps p.tables e below (T1336.setTop (fr_lof3 m b q1 32 (.val (.int (2 : Int32))) .unset .unset [])) t
    refine XS.aloadN Xh1338.here hx rfl (hb hby d8_32) rfl rfl ?_
    exact kt
   refine own_getF Xh1338 hx hZ hown (host := "") (Or.inl (Wd66 hw)) Via.refl Eq1336 Ff (hb hby d8_33) (fun T1339 X1339 e1339 => ?_)
   refine ownBy (A := T1339.setTop (fr_lof3 m b q1 41 (.val (.int (2 : Int32))) (.val (.long (f1 + (2 : Int64)))) .second [(.ref b)])) (fun t kt => ?_) ?_
   ·refine XS.iloadN X1339.here hx rfl (hb hby d8_36) rfl ?_
    show Steps p.tables e below (T1339.setTop (fr_lof3 m b q1 37 (.val (.int (2 : Int32))) .unset .unset [(.int (2 : Int32)), (.long f1)])) t
    refine XS.i2l X1339.here hx rfl (hb hby d8_37) rfl ?_
    show Steps p.tables e below (T1339.setTop (fr_lof3 m b q1 38 (.val (.int (2 : Int32))) .unset .unset [(.long (2 : Int64)), (.long f1)])) t
    refine XS.ladd X1339.here hx rfl (hb hby d8_38) rfl ?_
    show Steps p.tables e below (T1339.setTop (fr_lof3 m b q1 39 (.val (.int (2 : Int32))) .unset .unset [(.long (f1 + (2 : Int64)))])) t
    refine XS.lstoreN X1339.here hx rfl (hb hby d8_39) rfl (l' := #[.val (.ref b), .val (.int q1), .val (.int (2 : Int32)), .val (.long (f1 + (2 : Int64))), .second]) rfl ?_
    show Steps p.tables e below (T1339.setTop (fr_lof3 m b q1 40 (.val (.int (2 : Int32))) (.val (.long (f1 + (2 : Int64)))) .second [])) t
    refine XS.aloadN X1339.here hx rfl (hb hby d8_40) rfl rfl ?_
    exact kt
   refine own_getF X1339 hx hZ hown (host := "") (Or.inl (Wd72 hw)) Via.refl e1339 Fl (hb hby d8_41) (fun T1340 X1340 e1340 => ?_)
   refine ownBy (A := T1340.setTop (fr_lof3 m b q1 55 (.val (.int (2 : Int32))) (.val (.long (f1 + (2 : Int64)))) .second [(.long (f1 + (2 : Int64)))])) (fun t kt => ?_) ?_
   ·refine XS.ifnullYes X1340.here hx rfl (pc0 := 44) (pc' := 54) rfl (hb hby d8_44) rfl (by decide) (by decide) ?_
    show Steps p.tables e below (T1340.setTop (fr_lof3 m b q1 54 (.val (.int (2 : Int32))) (.val (.long (f1 + (2 : Int64)))) .second [])) t
    refine XS.lloadN X1340.here hx rfl (hb hby d8_54) rfl ?_
    exact kt
   refine ownRet X1340 Bd.notSynchronized (v := some (.long (f1 + (2 : Int64)))) (fun h => by rw [Bd.returns] at h; cases h) ?_ (oLe rfl) (oLe rfl) (fun fs hr => retOut X1340 hx Bd.returns rfl (Or.inr (Or.inl ⟨rfl, rfl, _, rfl⟩)) (hb hby d8_55) hr)
   show (Q_lof3 Z b y hh nn ky kh kn z0 z1 z2 m0 m1 m2 f1 lv q1 h0 n0) (some (.long (f1 + (2 : Int64)))) T1340.heap _
   rw [e1340]
   exact ⟨_, rfl, Nh1338, rfl, Or.inr (Or.inr (⟨own_eq_nlt hb1336_2_1 hb1336_2_2, hm2.symm⟩))⟩
  ·skip
   exfalso
   simp only [Int32.lt_iff_toInt_lt, ← Int32.toInt_inj] at hb1336_3_0 hb1336_3_1 hb1336_3_2 hmem hs0 hs1
   omega
  ·skip
   exfalso
   simp only [Int32.lt_iff_toInt_lt, ← Int32.toInt_inj] at hb1336_4_0 hb1336_4_1 hb1336_4_2 hb1336_4_3 hmem hs0 hs1
   omega
  ·skip
   have N1341 := Fr.app N0 Nq1336
   obtain ⟨Lh1342, Xh1342, Nh1342⟩ := oHd 0 0 X1336 N1341 rfl rfl
   refine ownBy st1336 ?_
   clear st1336
   show ownG p.tables e below _ (T1336.setTop (fr_lof3 m b q1 13 .unset .unset .unset [(.int (0 : Int32))]))
   refine ownBy (A := T1336.setTop (fr_lof3 m b q1 33 (.val (.int (0 : Int32))) .unset .unset [(.ref b)])) (fun t kt => ?_) ?_
   ·refine XS.istoreN Xh1342.here hx rfl (hb hby d8_13) rfl (l' := #[.val (.ref b), .val (.int q1), .val (.int (0 : Int32)), .unset, .unset]) rfl ?_
    show Steps p.tables e below (T1336.setTop (fr_lof3 m b q1 14 (.val (.int (0 : Int32))) .unset .unset [])) t
    refine XS.iloadN Xh1342.here hx rfl (hb hby d8_14) rfl ?_
    show Steps p.tables e below (T1336.setTop (fr_lof3 m b q1 15 (.val (.int (0 : Int32))) .unset .unset [(.int (0 : Int32))])) t
    refine XS.ifYes Xh1342.here hx rfl (pc0 := 15) (pc' := 32) rfl (hb hby d8_15) rfl ((if0 _ _).trans (flt ((by decide) : ¬ ((0 : Int32) < (0 : Int32)))).2.1) (by decide) (by decide) ?_
    show Steps p.tables e below (T1336.setTop (fr_lof3 m b q1 32 (.val (.int (0 : Int32))) .unset .unset [])) t
    refine XS.aloadN Xh1342.here hx rfl (hb hby d8_32) rfl rfl ?_
    exact kt
   refine own_getF Xh1342 hx hZ hown (host := "") (Or.inl (Wd66 hw)) Via.refl Eq1336 Ff (hb hby d8_33) (fun T1343 X1343 e1343 => ?_)
   refine ownBy (A := T1343.setTop (fr_lof3 m b q1 41 (.val (.int (0 : Int32))) (.val (.long (f1 + (0 : Int64)))) .second [(.ref b)])) (fun t kt => ?_) ?_
   ·refine XS.iloadN X1343.here hx rfl (hb hby d8_36) rfl ?_
    show Steps p.tables e below (T1343.setTop (fr_lof3 m b q1 37 (.val (.int (0 : Int32))) .unset .unset [(.int (0 : Int32)), (.long f1)])) t
    refine XS.i2l X1343.here hx rfl (hb hby d8_37) rfl ?_
    show Steps p.tables e below (T1343.setTop (fr_lof3 m b q1 38 (.val (.int (0 : Int32))) .unset .unset [(.long (0 : Int64)), (.long f1)])) t
    refine XS.ladd X1343.here hx rfl (hb hby d8_38) rfl ?_
    show Steps p.tables e below (T1343.setTop (fr_lof3 m b q1 39 (.val (.int (0 : Int32))) .unset .unset [(.long (f1 + (0 : Int64)))])) t
    refine XS.lstoreN X1343.here hx rfl (hb hby d8_39) rfl (l' := #[.val (.ref b), .val (.int q1), .val (.int (0 : Int32)), .val (.long (f1 + (0 : Int64))), .second]) rfl ?_
    show Steps p.tables e below (T1343.setTop (fr_lof3 m b q1 40 (.val (.int (0 : Int32))) (.val (.long (f1 + (0 : Int64)))) .second [])) t
    refine XS.aloadN X1343.here hx rfl (hb hby d8_40) rfl rfl ?_
    exact kt
   refine own_getF X1343 hx hZ hown (host := "") (Or.inl (Wd72 hw)) Via.refl e1343 Fl (hb hby d8_41) (fun T1344 X1344 e1344 => ?_)
   refine ownBy (A := T1344.setTop (fr_lof3 m b q1 55 (.val (.int (0 : Int32))) (.val (.long (f1 + (0 : Int64)))) .second [(.long (f1 + (0 : Int64)))])) (fun t kt => ?_) ?_
   ·refine XS.ifnullYes X1344.here hx rfl (pc0 := 44) (pc' := 54) rfl (hb hby d8_44) rfl (by decide) (by decide) ?_
    show Steps p.tables e below (T1344.setTop (fr_lof3 m b q1 54 (.val (.int (0 : Int32))) (.val (.long (f1 + (0 : Int64)))) .second [])) t
    refine XS.lloadN X1344.here hx rfl (hb hby d8_54) rfl ?_
    exact kt
   refine ownRet X1344 Bd.notSynchronized (v := some (.long (f1 + (0 : Int64)))) (fun h => by rw [Bd.returns] at h; cases h) ?_ (oLe rfl) (oLe rfl) (fun fs hr => retOut X1344 hx Bd.returns rfl (Or.inr (Or.inl ⟨rfl, rfl, _, rfl⟩)) (hb hby d8_55) hr)
   show (Q_lof3 Z b y hh nn ky kh kn z0 z1 z2 m0 m1 m2 f1 lv q1 h0 n0) (some (.long (f1 + (0 : Int64)))) T1344.heap _
   rw [e1344]
   exact ⟨_, rfl, Nh1342, rfl, Or.inl ⟨own_eq_nlt hb1336_5_2 hb1336_5_3, hm0.symm⟩⟩
  ·skip
   have N1345 := Fr.app N0 Nq1336
   obtain ⟨Lh1346, Xh1346, Nh1346⟩ := oHd 0 0 X1336 N1345 rfl rfl
   refine ownBy st1336 ?_
   clear st1336
   show ownG p.tables e below _ (T1336.setTop (fr_lof3 m b q1 13 .unset .unset .unset [(.int (1 : Int32))]))
   refine ownBy (A := T1336.setTop (fr_lof3 m b q1 33 (.val (.int (1 : Int32))) .unset .unset [(.ref b)])) (fun t kt => ?_) ?_
   ·refine XS.istoreN Xh1346.here hx rfl (hb hby d8_13) rfl (l' := #[.val (.ref b), .val (.int q1), .val (.int (1 : Int32)), .unset, .unset]) rfl ?_
    show Steps p.tables e below (T1336.setTop (fr_lof3 m b q1 14 (.val (.int (1 : Int32))) .unset .unset [])) t
    refine XS.iloadN Xh1346.here hx rfl (hb hby d8_14) rfl ?_
    show Steps p.tables e below (T1336.setTop (fr_lof3 m b q1 15 (.val (.int (1 : Int32))) .unset .unset [(.int (1 : Int32))])) t
    refine XS.ifYes Xh1346.here hx rfl (pc0 := 15) (pc' := 32) rfl (hb hby d8_15) rfl ((if0 _ _).trans (flt ((by decide) : ¬ ((1 : Int32) < (0 : Int32)))).2.1) (by decide) (by decide) ?_
    show Steps p.tables e below (T1336.setTop (fr_lof3 m b q1 32 (.val (.int (1 : Int32))) .unset .unset [])) t
    refine XS.aloadN Xh1346.here hx rfl (hb hby d8_32) rfl rfl ?_
    exact kt
   refine own_getF Xh1346 hx hZ hown (host := "") (Or.inl (Wd66 hw)) Via.refl Eq1336 Ff (hb hby d8_33) (fun T1347 X1347 e1347 => ?_)
   refine ownBy (A := T1347.setTop (fr_lof3 m b q1 41 (.val (.int (1 : Int32))) (.val (.long (f1 + (1 : Int64)))) .second [(.ref b)])) (fun t kt => ?_) ?_
   ·refine XS.iloadN X1347.here hx rfl (hb hby d8_36) rfl ?_
    show Steps p.tables e below (T1347.setTop (fr_lof3 m b q1 37 (.val (.int (1 : Int32))) .unset .unset [(.int (1 : Int32)), (.long f1)])) t
    refine XS.i2l X1347.here hx rfl (hb hby d8_37) rfl ?_
    show Steps p.tables e below (T1347.setTop (fr_lof3 m b q1 38 (.val (.int (1 : Int32))) .unset .unset [(.long (1 : Int64)), (.long f1)])) t
    refine XS.ladd X1347.here hx rfl (hb hby d8_38) rfl ?_
    show Steps p.tables e below (T1347.setTop (fr_lof3 m b q1 39 (.val (.int (1 : Int32))) .unset .unset [(.long (f1 + (1 : Int64)))])) t
    refine XS.lstoreN X1347.here hx rfl (hb hby d8_39) rfl (l' := #[.val (.ref b), .val (.int q1), .val (.int (1 : Int32)), .val (.long (f1 + (1 : Int64))), .second]) rfl ?_
    show Steps p.tables e below (T1347.setTop (fr_lof3 m b q1 40 (.val (.int (1 : Int32))) (.val (.long (f1 + (1 : Int64)))) .second [])) t
    refine XS.aloadN X1347.here hx rfl (hb hby d8_40) rfl rfl ?_
    exact kt
   refine own_getF X1347 hx hZ hown (host := "") (Or.inl (Wd72 hw)) Via.refl e1347 Fl (hb hby d8_41) (fun T1348 X1348 e1348 => ?_)
   refine ownBy (A := T1348.setTop (fr_lof3 m b q1 55 (.val (.int (1 : Int32))) (.val (.long (f1 + (1 : Int64)))) .second [(.long (f1 + (1 : Int64)))])) (fun t kt => ?_) ?_
   ·refine XS.ifnullYes X1348.here hx rfl (pc0 := 44) (pc' := 54) rfl (hb hby d8_44) rfl (by decide) (by decide) ?_
    show Steps p.tables e below (T1348.setTop (fr_lof3 m b q1 54 (.val (.int (1 : Int32))) (.val (.long (f1 + (1 : Int64)))) .second [])) t
    refine XS.lloadN X1348.here hx rfl (hb hby d8_54) rfl ?_
    exact kt
   refine ownRet X1348 Bd.notSynchronized (v := some (.long (f1 + (1 : Int64)))) (fun h => by rw [Bd.returns] at h; cases h) ?_ (oLe rfl) (oLe rfl) (fun fs hr => retOut X1348 hx Bd.returns rfl (Or.inr (Or.inl ⟨rfl, rfl, _, rfl⟩)) (hb hby d8_55) hr)
   show (Q_lof3 Z b y hh nn ky kh kn z0 z1 z2 m0 m1 m2 f1 lv q1 h0 n0) (some (.long (f1 + (1 : Int64)))) T1348.heap _
   rw [e1348]
   exact ⟨_, rfl, Nh1346, rfl, Or.inr (Or.inl ⟨own_eq_nlt hb1336_6_0 hb1336_6_1, hm1.symm⟩)⟩
 ·rw [hlv] at Fl
  refine ownBy (A := s₁.setTop (fr_lof3 m b q1 1 .unset .unset .unset [(.ref b)])) (fun t kt => ?_) ?_
  ·refine XS.aloadN X0.here hx rfl (hb hby d8_0) rfl rfl ?_
   exact kt
  refine own_getF X0 hx hZ hown (host := "") (Or.inl (Wd35 hw)) Via.refl e0 Fy (hb hby d8_1) (fun T1349 X1349 e1349 => ?_)
  refine ownBy (A := T1349.setTop (fr_lof3 m b q1 6 .unset .unset .unset [(.ref b), (.int (0 : Int32)), (.ref y)])) (fun t kt => ?_) ?_
  ·refine XS.iconst X1349.here hx rfl (hb hby d8_4) ?_
   show Steps p.tables e below (T1349.setTop (fr_lof3 m b q1 5 .unset .unset .unset [(.int (0 : Int32)), (.ref y)])) t
   refine XS.aloadN X1349.here hx rfl (hb hby d8_5) rfl rfl ?_
   exact kt
  refine own_getF X1349 hx hZ hown (host := "") (Or.inl (Wd64 hw)) Via.refl e1349 Fs (hb hby d8_6) (fun T1350 X1350 e1350 => ?_)
  refine ownBy (A := T1350.setTop (fr_lof3 m b q1 10 .unset .unset .unset [(.int q1), (.int (3 : Int32)), (.int (0 : Int32)), (.ref y)])) (fun t kt => ?_) ?_
  ·refine XS.iloadN X1350.here hx rfl (hb hby d8_9) rfl ?_
   exact kt
  obtain ⟨vv1351, _, ⟨T1351, L1351, k1351, n1351⟩, -, X1351, ⟨Lc1351, hQ1351, l1351, y1351, z1351⟩, st1351⟩ := Jvm.LawKit.callS X1350 hx (y := (⟨"java/util/Arrays", "binarySearch", "([IIII)I"⟩ : MethodName)) hown (mvT hZ (Wd79 hw)) (mvT hZ (Wd80 hw)) (mvT hZ (Wd81 hw)) (mvT hZ (Wd82 hw)) (by decide) (backOf (W := 0) (c_bs3 l Z a0 hw [] y ky z0 z1 z2 q1 h0 n0 Z0 Ay) hZ (Wd82 hw) (Wd81 hw) (by decide) (by decide)) (g := (fr_lof3 m b q1 10 .unset .unset .unset [(.int q1), (.int (3 : Int32)), (.int (0 : Int32)), (.ref y)])) rfl (by rw [hml]; rfl) (argsL := [(.ref y), (.int (0 : Int32)), (.int (3 : Int32)), (.int q1)]) (rest := []) (lenOf pd_11 rfl) rfl (by show 2 * 0 + _ ≤ _; exact Nat.le_of_eq rfl) (hb hby d8_10) (fun _ _ => ⟨rfl, e1350, (by decide : 0 + 0 ≤ _), (by decide : 0 + 0 ≤ _)⟩)
  dsimp only [Pt.U, Pt.locs, Pt.cells, Pt.slots] at X1351 l1351 y1351 z1351 st1351 hQ1351
  subst l1351 y1351 z1351
  obtain ⟨r1351, rfl, Nq1351, Eq1351, hB1351⟩ := hQ1351
  rcases hB1351 with ⟨hb1351_0_0, hb1351_0_1, rfl⟩ | ⟨hb1351_1_0, hb1351_1_1, hb1351_1_2, rfl⟩ | ⟨hb1351_2_0, hb1351_2_1, hb1351_2_2, rfl⟩ | ⟨hb1351_3_0, hb1351_3_1, hb1351_3_2, rfl⟩ | ⟨hb1351_4_0, hb1351_4_1, hb1351_4_2, hb1351_4_3, rfl⟩ | ⟨hb1351_5_0, hb1351_5_1, hb1351_5_2, hb1351_5_3, rfl⟩ | ⟨hb1351_6_0, hb1351_6_1, rfl⟩
  ·skip
   exfalso
   simp only [Int32.lt_iff_toInt_lt, ← Int32.toInt_inj] at hb1351_0_0 hb1351_0_1 hmem hs0 hs1
   omega
  ·skip
   exfalso
   simp only [Int32.lt_iff_toInt_lt, ← Int32.toInt_inj] at hb1351_1_0 hb1351_1_1 hb1351_1_2 hmem hs0 hs1
   omega
  ·skip
   have N1352 := Fr.app N0 Nq1351
   obtain ⟨Lh1353, Xh1353, Nh1353⟩ := oHd 0 0 X1351 N1352 rfl rfl
   refine ownBy st1351 ?_
   clear st1351
   show ownG p.tables e below _ (T1351.setTop (fr_lof3 m b q1 13 .unset .unset .unset [(.int (2 : Int32))]))
   refine ownBy (A := T1351.setTop (fr_lof3 m b q1 33 (.val (.int (2 : Int32))) .unset .unset [(.ref b)])) (fun t kt => ?_) ?_
   ·refine XS.istoreN Xh1353.here hx rfl (hb hby d8_13) rfl (l' := #[.val (.ref b), .val (.int q1), .val (.int (2 : Int32)), .unset, .unset]) rfl ?_
    show Steps p.tables e below (T1351.setTop (fr_lof3 m b q1 14 (.val (.int (2 : Int32))) .unset .unset [])) t
    refine XS.iloadN Xh1353.here hx rfl (hb hby d8_14) rfl ?_
    show Steps p.tables e below (T1351.setTop (fr_lof3 m b q1 15 (.val (.int (2 : Int32))) .unset .unset [(.int (2 : Int32))])) t
    refine XS.ifYes Xh1353.here hx rfl (pc0 := 15) (pc' := 32) rfl (hb hby d8_15) rfl ((if0 _ _).trans (flt ((by decide) : ¬ ((2 : Int32) < (0 : Int32)))).2.1) (by decide) (by decide) ?_
    show Steps p.tables e below (T1351.setTop (fr_lof3 m b q1 32 (.val (.int (2 : Int32))) .unset .unset [])) t
    refine XS.aloadN Xh1353.here hx rfl (hb hby d8_32) rfl rfl ?_
    exact kt
   refine own_getF Xh1353 hx hZ hown (host := "") (Or.inl (Wd66 hw)) Via.refl Eq1351 Ff (hb hby d8_33) (fun T1354 X1354 e1354 => ?_)
   refine ownBy (A := T1354.setTop (fr_lof3 m b q1 41 (.val (.int (2 : Int32))) (.val (.long (f1 + (2 : Int64)))) .second [(.ref b)])) (fun t kt => ?_) ?_
   ·refine XS.iloadN X1354.here hx rfl (hb hby d8_36) rfl ?_
    show Steps p.tables e below (T1354.setTop (fr_lof3 m b q1 37 (.val (.int (2 : Int32))) .unset .unset [(.int (2 : Int32)), (.long f1)])) t
    refine XS.i2l X1354.here hx rfl (hb hby d8_37) rfl ?_
    show Steps p.tables e below (T1354.setTop (fr_lof3 m b q1 38 (.val (.int (2 : Int32))) .unset .unset [(.long (2 : Int64)), (.long f1)])) t
    refine XS.ladd X1354.here hx rfl (hb hby d8_38) rfl ?_
    show Steps p.tables e below (T1354.setTop (fr_lof3 m b q1 39 (.val (.int (2 : Int32))) .unset .unset [(.long (f1 + (2 : Int64)))])) t
    refine XS.lstoreN X1354.here hx rfl (hb hby d8_39) rfl (l' := #[.val (.ref b), .val (.int q1), .val (.int (2 : Int32)), .val (.long (f1 + (2 : Int64))), .second]) rfl ?_
    show Steps p.tables e below (T1354.setTop (fr_lof3 m b q1 40 (.val (.int (2 : Int32))) (.val (.long (f1 + (2 : Int64)))) .second [])) t
    refine XS.aloadN X1354.here hx rfl (hb hby d8_40) rfl rfl ?_
    exact kt
   refine own_getF X1354 hx hZ hown (host := "") (Or.inl (Wd72 hw)) Via.refl e1354 Fl (hb hby d8_41) (fun T1355 X1355 e1355 => ?_)
   refine ownBy (A := T1355.setTop (fr_lof3 m b q1 48 (.val (.int (2 : Int32))) (.val (.long (f1 + (2 : Int64)))) .second [(.ref b)])) (fun t kt => ?_) ?_
   ·refine XS.ifnullNo X1355.here hx rfl (hb hby d8_44) rfl ?_
    show Steps p.tables e below (T1355.setTop (fr_lof3 m b q1 47 (.val (.int (2 : Int32))) (.val (.long (f1 + (2 : Int64)))) .second [])) t
    refine XS.aloadN X1355.here hx rfl (hb hby d8_47) rfl rfl ?_
    exact kt
   refine own_getF X1355 hx hZ hown (host := "") (Or.inl (Wd72 hw)) Via.refl e1355 Fl (hb hby d8_48) (fun T1356 X1356 e1356 => ?_)
   refine ownBy (A := T1356.setTop (fr_lof3 m b q1 52 (.val (.int (2 : Int32))) (.val (.long (f1 + (2 : Int64)))) .second [(.int (2 : Int32)), (.ref ln)])) (fun t kt => ?_) ?_
   ·refine XS.iloadN X1356.here hx rfl (hb hby d8_51) rfl ?_
    exact kt
   obtain ⟨cl1357, Ar1357, q1357, S1357, N1357, H1357, G1357⟩ := id Al
   have hin1357 : ¬ ((2 : Int32) < 0 ∨ cl1357.slots.size ≤ ((2 : Int32)).toNatClampNeg) := inb_of S1357 ⟨by decide, by decide⟩
   have hat1357 : cl1357.slots[((2 : Int32)).toNatClampNeg]? = some (.long m2) := H1357.at hin1357 rfl
   have st1357 := X1356.laload hx (j := (2 : Int32)) (v := (.long m2)) (by rw [e1356]; exact Ar1357.1) (State.isArrayOf_alike hZ.alike Ar1357.2.1) Ar1357.2.2 hin1357 hat1357 (g := (fr_lof3 m b q1 52 (.val (.int (2 : Int32))) (.val (.long (f1 + (2 : Int64)))) .second [(.int (2 : Int32)), (.ref ln)])) rfl rfl (hb hby d8_52)
   refine ownBy st1357 ?_
   show ownG p.tables e below _ (T1356.setTop (fr_lof3 m b q1 53 (.val (.int (2 : Int32))) (.val (.long (f1 + (2 : Int64)))) .second [(.long m2)]))
   refine ownBy (A := T1356.setTop (fr_lof3 m b q1 55 (.val (.int (2 : Int32))) (.val (.long m2)) .second [(.long m2)])) (fun t kt => ?_) ?_
   ·refine XS.lstoreN X1356.here hx rfl (hb hby d8_53) rfl (l' := #[.val (.ref b), .val (.int q1), .val (.int (2 : Int32)), .val (.long m2), .second]) rfl ?_
    show Steps p.tables e below (T1356.setTop (fr_lof3 m b q1 54 (.val (.int (2 : Int32))) (.val (.long m2)) .second [])) t
    refine XS.lloadN X1356.here hx rfl (hb hby d8_54) rfl ?_
    exact kt
   refine ownRet X1356 Bd.notSynchronized (v := some (.long m2)) (fun h => by rw [Bd.returns] at h; cases h) ?_ (oLe rfl) (oLe rfl) (fun fs hr => retOut X1356 hx Bd.returns rfl (Or.inr (Or.inl ⟨rfl, rfl, _, rfl⟩)) (hb hby d8_55) hr)
   show (Q_lof3 Z b y hh nn ky kh kn z0 z1 z2 m0 m1 m2 f1 lv q1 h0 n0) (some (.long m2)) T1356.heap _
   rw [e1356]
   exact ⟨_, rfl, Nh1353, rfl, Or.inr (Or.inr (⟨own_eq_nlt hb1351_2_1 hb1351_2_2, rfl⟩))⟩
  ·skip
   exfalso
   simp only [Int32.lt_iff_toInt_lt, ← Int32.toInt_inj] at hb1351_3_0 hb1351_3_1 hb1351_3_2 hmem hs0 hs1
   omega
  ·skip
   exfalso
   simp only [Int32.lt_iff_toInt_lt, ← Int32.toInt_inj] at hb1351_4_0 hb1351_4_1 hb1351_4_2 hb1351_4_3 hmem hs0 hs1
   omega
  ·skip
   have N1358 := Fr.app N0 Nq1351
   obtain ⟨Lh1359, Xh1359, Nh1359⟩ := oHd 0 0 X1351 N1358 rfl rfl
   refine ownBy st1351 ?_
   clear st1351
   show ownG p.tables e below _ (T1351.setTop (fr_lof3 m b q1 13 .unset .unset .unset [(.int (0 : Int32))]))
   refine ownBy (A := T1351.setTop (fr_lof3 m b q1 33 (.val (.int (0 : Int32))) .unset .unset [(.ref b)])) (fun t kt => ?_) ?_
   ·refine XS.istoreN Xh1359.here hx rfl (hb hby d8_13) rfl (l' := #[.val (.ref b), .val (.int q1), .val (.int (0 : Int32)), .unset, .unset]) rfl ?_
    show Steps p.tables e below (T1351.setTop (fr_lof3 m b q1 14 (.val (.int (0 : Int32))) .unset .unset [])) t
    refine XS.iloadN Xh1359.here hx rfl (hb hby d8_14) rfl ?_
    show Steps p.tables e below (T1351.setTop (fr_lof3 m b q1 15 (.val (.int (0 : Int32))) .unset .unset [(.int (0 : Int32))])) t
    refine XS.ifYes Xh1359.here hx rfl (pc0 := 15) (pc' := 32) rfl (hb hby d8_15) rfl ((if0 _ _).trans (flt ((by decide) : ¬ ((0 : Int32) < (0 : Int32)))).2.1) (by decide) (by decide) ?_
    show Steps p.tables e below (T1351.setTop (fr_lof3 m b q1 32 (.val (.int (0 : Int32))) .unset .unset [])) t
    refine XS.aloadN Xh1359.here hx rfl (hb hby d8_32) rfl rfl ?_
    exact kt
   refine own_getF Xh1359 hx hZ hown (host := "") (Or.inl (Wd66 hw)) Via.refl Eq1351 Ff (hb hby d8_33) (fun T1360 X1360 e1360 => ?_)
   refine ownBy (A := T1360.setTop (fr_lof3 m b q1 41 (.val (.int (0 : Int32))) (.val (.long (f1 + (0 : Int64)))) .second [(.ref b)])) (fun t kt => ?_) ?_
   ·refine XS.iloadN X1360.here hx rfl (hb hby d8_36) rfl ?_
    show Steps p.tables e below (T1360.setTop (fr_lof3 m b q1 37 (.val (.int (0 : Int32))) .unset .unset [(.int (0 : Int32)), (.long f1)])) t
    refine XS.i2l X1360.here hx rfl (hb hby d8_37) rfl ?_
    show Steps p.tables e below (T1360.setTop (fr_lof3 m b q1 38 (.val (.int (0 : Int32))) .unset .unset [(.long (0 : Int64)), (.long f1)])) t
    refine XS.ladd X1360.here hx rfl (hb hby d8_38) rfl ?_
    show Steps p.tables e below (T1360.setTop (fr_lof3 m b q1 39 (.val (.int (0 : Int32))) .unset .unset [(.long (f1 + (0 : Int64)))])) t
    refine XS.lstoreN X1360.here hx rfl (hb hby d8_39) rfl (l' := #[.val (.ref b), .val (.int q1), .val (.int (0 : Int32)), .val (.long (f1 + (0 : Int64))), .second]) rfl ?_
    show Steps p.tables e below (T1360.setTop (fr_lof3 m b q1 40 (.val (.int (0 : Int32))) (.val (.long (f1 + (0 : Int64)))) .second [])) t
    refine XS.aloadN X1360.here hx rfl (hb hby d8_40) rfl rfl ?_
    exact kt
   refine own_getF X1360 hx hZ hown (host := "") (Or.inl (Wd72 hw)) Via.refl e1360 Fl (hb hby d8_41) (fun T1361 X1361 e1361 => ?_)
   refine ownBy (A := T1361.setTop (fr_lof3 m b q1 48 (.val (.int (0 : Int32))) (.val (.long (f1 + (0 : Int64)))) .second [(.ref b)])) (fun t kt => ?_) ?_
   ·refine XS.ifnullNo X1361.here hx rfl (hb hby d8_44) rfl ?_
    show Steps p.tables e below (T1361.setTop (fr_lof3 m b q1 47 (.val (.int (0 : Int32))) (.val (.long (f1 + (0 : Int64)))) .second [])) t
    refine XS.aloadN X1361.here hx rfl (hb hby d8_47) rfl rfl ?_
    exact kt
   refine own_getF X1361 hx hZ hown (host := "") (Or.inl (Wd72 hw)) Via.refl e1361 Fl (hb hby d8_48) (fun T1362 X1362 e1362 => ?_)
   refine ownBy (A := T1362.setTop (fr_lof3 m b q1 52 (.val (.int (0 : Int32))) (.val (.long (f1 + (0 : Int64)))) .second [(.int (0 : Int32)), (.ref ln)])) (fun t kt => ?_) ?_
   ·refine XS.iloadN X1362.here hx rfl (hb hby d8_51) rfl ?_
    exact kt
   obtain ⟨cl1363, Ar1363, q1363, S1363, N1363, H1363, G1363⟩ := id Al
   have hin1363 : ¬ ((0 : Int32) < 0 ∨ cl1363.slots.size ≤ ((0 : Int32)).toNatClampNeg) := inb_of S1363 ⟨by decide, by decide⟩
   have hat1363 : cl1363.slots[((0 : Int32)).toNatClampNeg]? = some (.long m0) := H1363.at hin1363 rfl
   have st1363 := X1362.laload hx (j := (0 : Int32)) (v := (.long m0)) (by rw [e1362]; exact Ar1363.1) (State.isArrayOf_alike hZ.alike Ar1363.2.1) Ar1363.2.2 hin1363 hat1363 (g := (fr_lof3 m b q1 52 (.val (.int (0 : Int32))) (.val (.long (f1 + (0 : Int64)))) .second [(.int (0 : Int32)), (.ref ln)])) rfl rfl (hb hby d8_52)
   refine ownBy st1363 ?_
   show ownG p.tables e below _ (T1362.setTop (fr_lof3 m b q1 53 (.val (.int (0 : Int32))) (.val (.long (f1 + (0 : Int64)))) .second [(.long m0)]))
   refine ownBy (A := T1362.setTop (fr_lof3 m b q1 55 (.val (.int (0 : Int32))) (.val (.long m0)) .second [(.long m0)])) (fun t kt => ?_) ?_
   ·refine XS.lstoreN X1362.here hx rfl (hb hby d8_53) rfl (l' := #[.val (.ref b), .val (.int q1), .val (.int (0 : Int32)), .val (.long m0), .second]) rfl ?_
    show Steps p.tables e below (T1362.setTop (fr_lof3 m b q1 54 (.val (.int (0 : Int32))) (.val (.long m0)) .second [])) t
    refine XS.lloadN X1362.here hx rfl (hb hby d8_54) rfl ?_
    exact kt
   refine ownRet X1362 Bd.notSynchronized (v := some (.long m0)) (fun h => by rw [Bd.returns] at h; cases h) ?_ (oLe rfl) (oLe rfl) (fun fs hr => retOut X1362 hx Bd.returns rfl (Or.inr (Or.inl ⟨rfl, rfl, _, rfl⟩)) (hb hby d8_55) hr)
   show (Q_lof3 Z b y hh nn ky kh kn z0 z1 z2 m0 m1 m2 f1 lv q1 h0 n0) (some (.long m0)) T1362.heap _
   rw [e1362]
   exact ⟨_, rfl, Nh1359, rfl, Or.inl ⟨own_eq_nlt hb1351_5_2 hb1351_5_3, rfl⟩⟩
  ·skip
   have N1364 := Fr.app N0 Nq1351
   obtain ⟨Lh1365, Xh1365, Nh1365⟩ := oHd 0 0 X1351 N1364 rfl rfl
   refine ownBy st1351 ?_
   clear st1351
   show ownG p.tables e below _ (T1351.setTop (fr_lof3 m b q1 13 .unset .unset .unset [(.int (1 : Int32))]))
   refine ownBy (A := T1351.setTop (fr_lof3 m b q1 33 (.val (.int (1 : Int32))) .unset .unset [(.ref b)])) (fun t kt => ?_) ?_
   ·refine XS.istoreN Xh1365.here hx rfl (hb hby d8_13) rfl (l' := #[.val (.ref b), .val (.int q1), .val (.int (1 : Int32)), .unset, .unset]) rfl ?_
    show Steps p.tables e below (T1351.setTop (fr_lof3 m b q1 14 (.val (.int (1 : Int32))) .unset .unset [])) t
    refine XS.iloadN Xh1365.here hx rfl (hb hby d8_14) rfl ?_
    show Steps p.tables e below (T1351.setTop (fr_lof3 m b q1 15 (.val (.int (1 : Int32))) .unset .unset [(.int (1 : Int32))])) t
    refine XS.ifYes Xh1365.here hx rfl (pc0 := 15) (pc' := 32) rfl (hb hby d8_15) rfl ((if0 _ _).trans (flt ((by decide) : ¬ ((1 : Int32) < (0 : Int32)))).2.1) (by decide) (by decide) ?_
    show Steps p.tables e below (T1351.setTop (fr_lof3 m b q1 32 (.val (.int (1 : Int32))) .unset .unset [])) t
    refine XS.aloadN Xh1365.here hx rfl (hb hby d8_32) rfl rfl ?_
    exact kt
   refine own_getF Xh1365 hx hZ hown (host := "") (Or.inl (Wd66 hw)) Via.refl Eq1351 Ff (hb hby d8_33) (fun T1366 X1366 e1366 => ?_)
   refine ownBy (A := T1366.setTop (fr_lof3 m b q1 41 (.val (.int (1 : Int32))) (.val (.long (f1 + (1 : Int64)))) .second [(.ref b)])) (fun t kt => ?_) ?_
   ·refine XS.iloadN X1366.here hx rfl (hb hby d8_36) rfl ?_
    show Steps p.tables e below (T1366.setTop (fr_lof3 m b q1 37 (.val (.int (1 : Int32))) .unset .unset [(.int (1 : Int32)), (.long f1)])) t
    refine XS.i2l X1366.here hx rfl (hb hby d8_37) rfl ?_
    show Steps p.tables e below (T1366.setTop (fr_lof3 m b q1 38 (.val (.int (1 : Int32))) .unset .unset [(.long (1 : Int64)), (.long f1)])) t
    refine XS.ladd X1366.here hx rfl (hb hby d8_38) rfl ?_
    show Steps p.tables e below (T1366.setTop (fr_lof3 m b q1 39 (.val (.int (1 : Int32))) .unset .unset [(.long (f1 + (1 : Int64)))])) t
    refine XS.lstoreN X1366.here hx rfl (hb hby d8_39) rfl (l' := #[.val (.ref b), .val (.int q1), .val (.int (1 : Int32)), .val (.long (f1 + (1 : Int64))), .second]) rfl ?_
    show Steps p.tables e below (T1366.setTop (fr_lof3 m b q1 40 (.val (.int (1 : Int32))) (.val (.long (f1 + (1 : Int64)))) .second [])) t
    refine XS.aloadN X1366.here hx rfl (hb hby d8_40) rfl rfl ?_
    exact kt
   refine own_getF X1366 hx hZ hown (host := "") (Or.inl (Wd72 hw)) Via.refl e1366 Fl (hb hby d8_41) (fun T1367 X1367 e1367 => ?_)
   refine ownBy (A := T1367.setTop (fr_lof3 m b q1 48 (.val (.int (1 : Int32))) (.val (.long (f1 + (1 : Int64)))) .second [(.ref b)])) (fun t kt => ?_) ?_
   ·refine XS.ifnullNo X1367.here hx rfl (hb hby d8_44) rfl ?_
    show Steps p.tables e below (T1367.setTop (fr_lof3 m b q1 47 (.val (.int (1 : Int32))) (.val (.long (f1 + (1 : Int64)))) .second [])) t
    refine XS.aloadN X1367.here hx rfl (hb hby d8_47) rfl rfl ?_
    exact kt
   refine own_getF X1367 hx hZ hown (host := "") (Or.inl (Wd72 hw)) Via.refl e1367 Fl (hb hby d8_48) (fun T1368 X1368 e1368 => ?_)
   refine ownBy (A := T1368.setTop (fr_lof3 m b q1 52 (.val (.int (1 : Int32))) (.val (.long (f1 + (1 : Int64)))) .second [(.int (1 : Int32)), (.ref ln)])) (fun t kt => ?_) ?_
   ·refine XS.iloadN X1368.here hx rfl (hb hby d8_51) rfl ?_
    exact kt
   obtain ⟨cl1369, Ar1369, q1369, S1369, N1369, H1369, G1369⟩ := id Al
   have hin1369 : ¬ ((1 : Int32) < 0 ∨ cl1369.slots.size ≤ ((1 : Int32)).toNatClampNeg) := inb_of S1369 ⟨by decide, by decide⟩
   have hat1369 : cl1369.slots[((1 : Int32)).toNatClampNeg]? = some (.long m1) := H1369.at hin1369 rfl
   have st1369 := X1368.laload hx (j := (1 : Int32)) (v := (.long m1)) (by rw [e1368]; exact Ar1369.1) (State.isArrayOf_alike hZ.alike Ar1369.2.1) Ar1369.2.2 hin1369 hat1369 (g := (fr_lof3 m b q1 52 (.val (.int (1 : Int32))) (.val (.long (f1 + (1 : Int64)))) .second [(.int (1 : Int32)), (.ref ln)])) rfl rfl (hb hby d8_52)
   refine ownBy st1369 ?_
   show ownG p.tables e below _ (T1368.setTop (fr_lof3 m b q1 53 (.val (.int (1 : Int32))) (.val (.long (f1 + (1 : Int64)))) .second [(.long m1)]))
   refine ownBy (A := T1368.setTop (fr_lof3 m b q1 55 (.val (.int (1 : Int32))) (.val (.long m1)) .second [(.long m1)])) (fun t kt => ?_) ?_
   ·refine XS.lstoreN X1368.here hx rfl (hb hby d8_53) rfl (l' := #[.val (.ref b), .val (.int q1), .val (.int (1 : Int32)), .val (.long m1), .second]) rfl ?_
    show Steps p.tables e below (T1368.setTop (fr_lof3 m b q1 54 (.val (.int (1 : Int32))) (.val (.long m1)) .second [])) t
    refine XS.lloadN X1368.here hx rfl (hb hby d8_54) rfl ?_
    exact kt
   refine ownRet X1368 Bd.notSynchronized (v := some (.long m1)) (fun h => by rw [Bd.returns] at h; cases h) ?_ (oLe rfl) (oLe rfl) (fun fs hr => retOut X1368 hx Bd.returns rfl (Or.inr (Or.inl ⟨rfl, rfl, _, rfl⟩)) (hb hby d8_55) hr)
   show (Q_lof3 Z b y hh nn ky kh kn z0 z1 z2 m0 m1 m2 f1 lv q1 h0 n0) (some (.long m1)) T1368.heap _
   rw [e1368]
   exact ⟨_, rfl, Nh1365, rfl, Or.inr (Or.inl ⟨own_eq_nlt hb1351_6_0 hb1351_6_1, rfl⟩)⟩
abbrev fr_law (m : MethodId) (p1 : Int32) (p2 : Int32) (q3 : Int64) (q4 : Int64) (p5 : Int32) (pc : Nat) (x8_ x9_ x10_ x11_ x12_ x13_ x14_ x15_ x16_ x17_ x18_ x19_ x20_ x21_ x22_ x23_ x24_ : Slot) (st : List Value) : JFrame := mkF m pc #[.val (.int p1), .val (.int p2), .val (.long q3), .second, .val (.long q4), .second, .val (.int p5), .val (.int p1), x8_, x9_, x10_, x11_, x12_, x13_, x14_, x15_, x16_, x17_, x18_, x19_, x20_, x21_, x22_, x23_, x24_] st
def Q_law (Z : State) (p1 : Int32) (p2 : Int32) (q3 : Int64) (q4 : Int64) (p5 : Int32) (DV : Value) (h0 : Heap) (n0 : Nat) (v : Option Value) (h : Heap) (L : List Loc) : Prop := v = some (.int 1) ∧ Fr n0 L
theorem ef_law (m : MethodId) (x0 : Int32) (x1 : Int32) (x2 : Int64) (x3 : Int64) (x4 : Int32)  : entryFrame m #[(.int x0), (.int x1), (.long x2), (.long x3), (.int x4)] maxLocals = mkF m 0 #[.val (.int x0), .val (.int x1), .val (.long x2), .second, .val (.long x3), .second, .val (.int x4), .unset, .unset, .unset, .unset, .unset, .unset, .unset, .unset, .unset, .unset, .unset, .unset, .unset, .unset, .unset, .unset, .unset, .unset] [] := by first | (simp [entryFrame, mkF, argsToLocals, Value.category, maxLocals]; done) | rfl
set_option maxRecDepth 65536 in
set_option maxHeartbeats 40000000 in
theorem c_law (l : Launch) (Z : State) (a0 : Array Value) (hw : ∀ d ∈ tables_1, d.before a0 Z = true) (ws : List Jvm.Cond) (p1 : Int32) (p2 : Int32) (q3 : Int64) (q4 : Int64) (p5 : Int32) (DV : Value) (h0 : Heap) (n0 : Nat) (Z0 : n0 ≤ h0.size) (SD : Sta Z Z.heap "java/util/ArrayList" "DEFAULTCAPACITY_EMPTY_ELEMENTDATA" "[Ljava/lang/Object;" DV) (rDV : DV.isRef = true) (X00 : Old Z n0 h0) :
  MetFree l x (head1 (Jvm.Cond.code x code maxLocals ret :: ws) room_1) (fun a U => a = #[(.int p1), (.int p2), (.long q3), (.long q4), (.int p5)] ∧ Z.Warmed39 U.vm ∧ U.heap = h0) (fun _ _ _ _ _ => True) (fun _ U o U' => ∃ v L, o = .returned v ∧ (Q_law Z p1 p2 q3 q4 p5 DV h0 n0) v U'.heap L ∧ FrameEnd U o U' L 24 192) := by
 refine MetFree.of_bodySF (plainFor_of_name pn_1370) hisR ?_
 intro p e s m args below meth c s₁ Bd hml0 hP hK
 obtain ⟨rfl, hZ, hHp⟩ := hP
 have hx := Bd.exec
 have hby := Bd.bytes
 have hml : c.maxLocals = 25 := hml0
 have hown : s.vm.findClass "com/example/vestline/vestline/BuilderLineOfPinLaw" = some m.cls := findClass_of_methodNamed Bd.named
 have hnm := (name_of_methodNamed Bd.named Bd.method).1
 have X0 : Stand p l e room_1 s m #[(.int p1), (.int p2), (.long q3), (.long q4), (.int p5)] below meth c s₁ [] 0 0 := Stand.of_body Bd
 have e0 : s₁.heap = h0 := by rw [← hHp, Bd.state]; rfl
 have N0 := Fr.nil n0
 refine ownOut (P := (Q_law Z p1 p2 q3 q4 p5 DV h0 n0)) ?_
 refine ownBy (A := s₁.setTop (mkF m 0 #[.val (.int p1), .val (.int p2), .val (.long q3), .second, .val (.long q4), .second, .val (.int p5), .unset, .unset, .unset, .unset, .unset, .unset, .unset, .unset, .unset, .unset, .unset, .unset, .unset, .unset, .unset, .unset, .unset, .unset] [])) (fun t k => castTop (ef_law m p1 p2 q3 q4 p5) k) ?_
 refine ownBy (A := s₁.setTop (fr_law m p1 p2 q3 q4 p5 29 (.val (.int ((p1 + (1 : Int32)) + (p2 &&& (255 : Int32))))) (.val (.int ((((p1 + (1 : Int32)) + (p2 &&& (255 : Int32))) + (1 : Int32)) + (((p2.toUInt32 >>> ((8 : Int32) &&& 31).toUInt32).toInt32) &&& (255 : Int32))))) .unset .unset .unset .unset .unset .unset .unset .unset .unset .unset .unset .unset .unset .unset .unset [])) (fun t kt => ?_) ?_
 ·refine XS.iloadN X0.here hx rfl (hb hby at_0) rfl ?_
  refine XS.istore X0.here hx rfl (hb hby at_1) rfl (l' := #[.val (.int p1), .val (.int p2), .val (.long q3), .second, .val (.long q4), .second, .val (.int p5), .val (.int p1), .unset, .unset, .unset, .unset, .unset, .unset, .unset, .unset, .unset, .unset, .unset, .unset, .unset, .unset, .unset, .unset, .unset]) rfl ?_
  refine XS.iloadN X0.here hx rfl (hb hby at_3) rfl ?_
  show Steps p.tables e below (s₁.setTop (fr_law m p1 p2 q3 q4 p5 4 .unset .unset .unset .unset .unset .unset .unset .unset .unset .unset .unset .unset .unset .unset .unset .unset .unset [(.int p1)])) t
  refine XS.iconst X0.here hx rfl (hb hby at_4) ?_
  refine XS.iadd X0.here hx rfl (hb hby at_5) rfl ?_
  refine XS.iloadN X0.here hx rfl (hb hby at_6) rfl ?_
  show Steps p.tables e below (s₁.setTop (fr_law m p1 p2 q3 q4 p5 7 .unset .unset .unset .unset .unset .unset .unset .unset .unset .unset .unset .unset .unset .unset .unset .unset .unset [(.int p2), (.int (p1 + (1 : Int32)))])) t
  refine XS.sipush X0.here hx rfl (hb hby at_7) ?_
  refine XS.iand X0.here hx rfl (hb hby at_10) rfl ?_
  refine XS.iadd X0.here hx rfl (hb hby at_11) rfl ?_
  show Steps p.tables e below (s₁.setTop (fr_law m p1 p2 q3 q4 p5 12 .unset .unset .unset .unset .unset .unset .unset .unset .unset .unset .unset .unset .unset .unset .unset .unset .unset [(.int ((p1 + (1 : Int32)) + (p2 &&& (255 : Int32))))])) t
  refine XS.istore X0.here hx rfl (hb hby at_12) rfl (l' := #[.val (.int p1), .val (.int p2), .val (.long q3), .second, .val (.long q4), .second, .val (.int p5), .val (.int p1), .val (.int ((p1 + (1 : Int32)) + (p2 &&& (255 : Int32)))), .unset, .unset, .unset, .unset, .unset, .unset, .unset, .unset, .unset, .unset, .unset, .unset, .unset, .unset, .unset, .unset]) rfl ?_
  refine XS.iload X0.here hx rfl (hb hby at_14) rfl ?_
  refine XS.iconst X0.here hx rfl (hb hby at_16) ?_
  show Steps p.tables e below (s₁.setTop (fr_law m p1 p2 q3 q4 p5 17 (.val (.int ((p1 + (1 : Int32)) + (p2 &&& (255 : Int32))))) .unset .unset .unset .unset .unset .unset .unset .unset .unset .unset .unset .unset .unset .unset .unset .unset [(.int (1 : Int32)), (.int ((p1 + (1 : Int32)) + (p2 &&& (255 : Int32))))])) t
  refine XS.iadd X0.here hx rfl (hb hby at_17) rfl ?_
  refine XS.iloadN X0.here hx rfl (hb hby at_18) rfl ?_
  refine XS.bipush X0.here hx rfl (hb hby at_19) ?_
  show Steps p.tables e below (s₁.setTop (fr_law m p1 p2 q3 q4 p5 21 (.val (.int ((p1 + (1 : Int32)) + (p2 &&& (255 : Int32))))) .unset .unset .unset .unset .unset .unset .unset .unset .unset .unset .unset .unset .unset .unset .unset .unset [(.int (8 : Int32)), (.int p2), (.int (((p1 + (1 : Int32)) + (p2 &&& (255 : Int32))) + (1 : Int32)))])) t
  refine XS.iushr X0.here hx rfl (hb hby at_21) rfl ?_
  refine XS.sipush X0.here hx rfl (hb hby at_22) ?_
  refine XS.iand X0.here hx rfl (hb hby at_25) rfl ?_
  show Steps p.tables e below (s₁.setTop (fr_law m p1 p2 q3 q4 p5 26 (.val (.int ((p1 + (1 : Int32)) + (p2 &&& (255 : Int32))))) .unset .unset .unset .unset .unset .unset .unset .unset .unset .unset .unset .unset .unset .unset .unset .unset [(.int (((p2.toUInt32 >>> ((8 : Int32) &&& 31).toUInt32).toInt32) &&& (255 : Int32))), (.int (((p1 + (1 : Int32)) + (p2 &&& (255 : Int32))) + (1 : Int32)))])) t
  refine XS.iadd X0.here hx rfl (hb hby at_26) rfl ?_
  refine XS.istore X0.here hx rfl (hb hby at_27) rfl (l' := #[.val (.int p1), .val (.int p2), .val (.long q3), .second, .val (.long q4), .second, .val (.int p5), .val (.int p1), .val (.int ((p1 + (1 : Int32)) + (p2 &&& (255 : Int32)))), .val (.int ((((p1 + (1 : Int32)) + (p2 &&& (255 : Int32))) + (1 : Int32)) + (((p2.toUInt32 >>> ((8 : Int32) &&& 31).toUInt32).toInt32) &&& (255 : Int32)))), .unset, .unset, .unset, .unset, .unset, .unset, .unset, .unset, .unset, .unset, .unset, .unset, .unset, .unset, .unset]) rfl ?_
  exact kt
 show ownG p.tables e below _ (s₁.setTop (fr_law m p1 p2 q3 q4 p5 29 (.val (.int ((p1 + (1 : Int32)) + (p2 &&& (255 : Int32))))) (.val (.int ((((p1 + (1 : Int32)) + (p2 &&& (255 : Int32))) + (1 : Int32)) + (((p2.toUInt32 >>> ((8 : Int32) &&& 31).toUInt32).toInt32) &&& (255 : Int32))))) .unset .unset .unset .unset .unset .unset .unset .unset .unset .unset .unset .unset .unset .unset .unset []))
 generalize hd_ya : ((p1 + (1 : Int32)) + (p2 &&& (255 : Int32))) = ya
 show ownG p.tables e below _ (s₁.setTop (fr_law m p1 p2 q3 q4 p5 29 (.val (.int ya)) (.val (.int ((ya + (1 : Int32)) + (((p2.toUInt32 >>> ((8 : Int32) &&& 31).toUInt32).toInt32) &&& (255 : Int32))))) .unset .unset .unset .unset .unset .unset .unset .unset .unset .unset .unset .unset .unset .unset .unset []))
 generalize hd_yb : ((ya + (1 : Int32)) + (((p2.toUInt32 >>> ((8 : Int32) &&& 31).toUInt32).toInt32) &&& (255 : Int32))) = yb
 have hdist := own_dist hd_ya hd_yb
 refine ownBy (A := s₁.setTop (fr_law m p1 p2 q3 q4 p5 30 (.val (.int ya)) (.val (.int yb)) .unset .unset .unset .unset .unset .unset .unset .unset .unset .unset .unset .unset .unset .unset .unset [(.int (3 : Int32))])) (fun t kt => ?_) ?_
 ·refine XS.iconst X0.here hx rfl (hb hby at_29) ?_
  exact kt
 obtain ⟨T1371, h1371, k1371, X1371, e1371, E1371, A1371, st1371⟩ := newP X0 hx hZ (aty := .int) (Wd0 hw) e0 (g := (fr_law m p1 p2 q3 q4 p5 30 (.val (.int ya)) (.val (.int yb)) .unset .unset .unset .unset .unset .unset .unset .unset .unset .unset .unset .unset .unset .unset .unset [(.int (3 : Int32))])) rfl (hb hby at_30) rfl (by decide : ¬ ((3 : Int32) < (0 : Int32))) (cap := 3) (by decide) (by decide) (by decide) (by decide)
 obtain ⟨b1371, g1371⟩ : ∃ z, z = h0.size := ⟨_, rfl⟩
 rw [← g1371] at A1371 st1371
 have g1372 : n0 ≤ b1371 := Nat.le_trans Z0 (Nat.le_of_eq g1371.symm)
 have z1373 : h0.size ≤ b1371 := Nat.le_trans (Nat.le_refl h0.size) (Nat.le_of_eq g1371.symm)
 have V1374 : Arv Z h1371 b1371 k1371 .int (3 : Int32) [(.int (0 : Int32)), (.int (0 : Int32)), (.int (0 : Int32))] (.int (0 : Int32)) := (Arv.new A1371 (by decide)).pad (pad_rep [] (.int (0 : Int32)) 3)
 refine ownBy st1371 ?_
 clear st1371
 show ownG p.tables e below _ (T1371.setTop (fr_law m p1 p2 q3 q4 p5 32 (.val (.int ya)) (.val (.int yb)) .unset .unset .unset .unset .unset .unset .unset .unset .unset .unset .unset .unset .unset .unset .unset [(.ref b1371)]))
 refine ownBy (A := T1371.setTop (fr_law m p1 p2 q3 q4 p5 36 (.val (.int ya)) (.val (.int yb)) .unset .unset .unset .unset .unset .unset .unset .unset .unset .unset .unset .unset .unset .unset .unset [(.int p1), (.int (0 : Int32)), (.ref b1371), (.ref b1371)])) (fun t kt => ?_) ?_
 ·refine XS.dup X1371.here hx rfl (hb hby at_32) rfl rfl ?_
  refine XS.iconst X1371.here hx rfl (hb hby at_33) ?_
  refine XS.iload X1371.here hx rfl (hb hby at_34) rfl ?_
  exact kt
 obtain ⟨cl1375, Ar1375, q1375, S1375, N1375, H1375, G1375⟩ := id V1374
 have hin1375 : ¬ ((0 : Int32) < 0 ∨ cl1375.slots.size ≤ ((0 : Int32)).toNatClampNeg) := inb_of S1375 ⟨by decide, by decide⟩
 obtain ⟨T1375, h1375, X1375, e1375, W1375, st1375⟩ := stI X1371 hx hZ e1371 Ar1375 (j := (0 : Int32)) hin1375 (g := (fr_law m p1 p2 q3 q4 p5 36 (.val (.int ya)) (.val (.int yb)) .unset .unset .unset .unset .unset .unset .unset .unset .unset .unset .unset .unset .unset .unset .unset [(.int p1), (.int (0 : Int32)), (.ref b1371), (.ref b1371)])) rfl rfl (hb hby at_36)
 have V1376 : Arv Z h1375 b1371 k1371 .int (3 : Int32) [(.int p1), (.int (0 : Int32)), (.int (0 : Int32))] (.int (0 : Int32)) := Arv.set Ar1375 q1375 S1375 N1375 H1375 G1375 rfl W1375 0 rfl (oLe rfl)
 clear hin1375 G1375 H1375 N1375 S1375 q1375 Ar1375 cl1375 V1374
 have N1377 := Fr.snoc X1375 N0 g1372
 obtain ⟨Lh1378, Xh1378, Nh1378⟩ := oHd 1 3 X1375 N1377 rfl rfl
 refine ownBy st1375 ?_
 clear st1375
 show ownG p.tables e below _ (T1375.setTop (fr_law m p1 p2 q3 q4 p5 37 (.val (.int ya)) (.val (.int yb)) .unset .unset .unset .unset .unset .unset .unset .unset .unset .unset .unset .unset .unset .unset .unset [(.ref b1371)]))
 refine ownBy (A := T1375.setTop (fr_law m p1 p2 q3 q4 p5 41 (.val (.int ya)) (.val (.int yb)) .unset .unset .unset .unset .unset .unset .unset .unset .unset .unset .unset .unset .unset .unset .unset [(.int ya), (.int (1 : Int32)), (.ref b1371), (.ref b1371)])) (fun t kt => ?_) ?_
 ·refine XS.dup Xh1378.here hx rfl (hb hby at_37) rfl rfl ?_
  refine XS.iconst Xh1378.here hx rfl (hb hby at_38) ?_
  refine XS.iload Xh1378.here hx rfl (hb hby at_39) rfl ?_
  exact kt
 obtain ⟨cl1379, Ar1379, q1379, S1379, N1379, H1379, G1379⟩ := id V1376
 have hin1379 : ¬ ((1 : Int32) < 0 ∨ cl1379.slots.size ≤ ((1 : Int32)).toNatClampNeg) := inb_of S1379 ⟨by decide, by decide⟩
 obtain ⟨T1379, h1379, X1379, e1379, W1379, st1379⟩ := stI Xh1378 hx hZ e1375 Ar1379 (j := (1 : Int32)) hin1379 (g := (fr_law m p1 p2 q3 q4 p5 41 (.val (.int ya)) (.val (.int yb)) .unset .unset .unset .unset .unset .unset .unset .unset .unset .unset .unset .unset .unset .unset .unset [(.int ya), (.int (1 : Int32)), (.ref b1371), (.ref b1371)])) rfl rfl (hb hby at_41)
 have V1380 : Arv Z h1379 b1371 k1371 .int (3 : Int32) [(.int p1), (.int ya), (.int (0 : Int32))] (.int (0 : Int32)) := Arv.set Ar1379 q1379 S1379 N1379 H1379 G1379 rfl W1379 1 rfl (oLe rfl)
 clear hin1379 G1379 H1379 N1379 S1379 q1379 Ar1379 cl1379 V1376
 have N1381 := Fr.snoc X1379 Nh1378 g1372
 obtain ⟨Lh1382, Xh1382, Nh1382⟩ := oHd 1 3 X1379 N1381 rfl rfl
 refine ownBy st1379 ?_
 clear st1379
 show ownG p.tables e below _ (T1379.setTop (fr_law m p1 p2 q3 q4 p5 42 (.val (.int ya)) (.val (.int yb)) .unset .unset .unset .unset .unset .unset .unset .unset .unset .unset .unset .unset .unset .unset .unset [(.ref b1371)]))
 refine ownBy (A := T1379.setTop (fr_law m p1 p2 q3 q4 p5 46 (.val (.int ya)) (.val (.int yb)) .unset .unset .unset .unset .unset .unset .unset .unset .unset .unset .unset .unset .unset .unset .unset [(.int yb), (.int (2 : Int32)), (.ref b1371), (.ref b1371)])) (fun t kt => ?_) ?_
 ·refine XS.dup Xh1382.here hx rfl (hb hby at_42) rfl rfl ?_
  refine XS.iconst Xh1382.here hx rfl (hb hby at_43) ?_
  refine XS.iload Xh1382.here hx rfl (hb hby at_44) rfl ?_
  exact kt
 obtain ⟨cl1383, Ar1383, q1383, S1383, N1383, H1383, G1383⟩ := id V1380
 have hin1383 : ¬ ((2 : Int32) < 0 ∨ cl1383.slots.size ≤ ((2 : Int32)).toNatClampNeg) := inb_of S1383 ⟨by decide, by decide⟩
 obtain ⟨T1383, h1383, X1383, e1383, W1383, st1383⟩ := stI Xh1382 hx hZ e1379 Ar1383 (j := (2 : Int32)) hin1383 (g := (fr_law m p1 p2 q3 q4 p5 46 (.val (.int ya)) (.val (.int yb)) .unset .unset .unset .unset .unset .unset .unset .unset .unset .unset .unset .unset .unset .unset .unset [(.int yb), (.int (2 : Int32)), (.ref b1371), (.ref b1371)])) rfl rfl (hb hby at_46)
 have V1384 : Arv Z h1383 b1371 k1371 .int (3 : Int32) [(.int p1), (.int ya), (.int yb)] (.int (0 : Int32)) := Arv.set Ar1383 q1383 S1383 N1383 H1383 G1383 rfl W1383 2 rfl (oLe rfl)
 clear hin1383 G1383 H1383 N1383 S1383 q1383 Ar1383 cl1383 V1380
 have N1385 := Fr.snoc X1383 Nh1382 g1372
 obtain ⟨Lh1386, Xh1386, Nh1386⟩ := oHd 1 3 X1383 N1385 rfl rfl
 refine ownBy st1383 ?_
 clear st1383
 show ownG p.tables e below _ (T1383.setTop (fr_law m p1 p2 q3 q4 p5 47 (.val (.int ya)) (.val (.int yb)) .unset .unset .unset .unset .unset .unset .unset .unset .unset .unset .unset .unset .unset .unset .unset [(.ref b1371)]))
 refine ownBy (A := T1383.setTop (fr_law m p1 p2 q3 q4 p5 51 (.val (.int ya)) (.val (.int yb)) (.val (.ref b1371)) .unset .unset .unset .unset .unset .unset .unset .unset .unset .unset .unset .unset .unset .unset [(.int (18 : Int32))])) (fun t kt => ?_) ?_
 ·refine XS.astore Xh1386.here hx rfl (hb hby at_47) rfl rfl (l' := #[.val (.int p1), .val (.int p2), .val (.long q3), .second, .val (.long q4), .second, .val (.int p5), .val (.int p1), .val (.int ya), .val (.int yb), .val (.ref b1371), .unset, .unset, .unset, .unset, .unset, .unset, .unset, .unset, .unset, .unset, .unset, .unset, .unset, .unset]) rfl ?_
  refine XS.bipush Xh1386.here hx rfl (hb hby at_49) ?_
  exact kt
 obtain ⟨T1387, h1387, k1387, X1387, e1387, E1387, A1387, st1387⟩ := newP Xh1386 hx hZ (aty := .int) (Wd0 hw) e1383 (g := (fr_law m p1 p2 q3 q4 p5 51 (.val (.int ya)) (.val (.int yb)) (.val (.ref b1371)) .unset .unset .unset .unset .unset .unset .unset .unset .unset .unset .unset .unset .unset .unset [(.int (18 : Int32))])) rfl (hb hby at_51) rfl (by decide : ¬ ((18 : Int32) < (0 : Int32))) (cap := 18) (by decide) (by decide) (by decide) (by decide)
 obtain ⟨b1387, g1387⟩ : ∃ z, z = h1383.size := ⟨_, rfl⟩
 rw [← g1387] at A1387 st1387
 have ne1388 : b1371 ≠ b1387 := Nat.ne_of_lt (Nat.lt_of_lt_of_le V1384.lt (Nat.le_of_eq g1387.symm))
 have f1390 := (Nat.le_trans (Nat.le_trans (Nat.le_trans (Nat.le_trans Z0 E1371.1) (Keep.of_wr W1375).1) (Keep.of_wr W1379).1) (Keep.of_wr W1383).1)
 have g1389 : n0 ≤ b1387 := Nat.le_trans f1390 (Nat.le_of_eq g1387.symm)
 have f1392 := (Nat.le_trans (Nat.le_trans (Nat.le_trans (Nat.le_trans (Nat.le_refl h0.size) E1371.1) (Keep.of_wr W1375).1) (Keep.of_wr W1379).1) (Keep.of_wr W1383).1)
 have z1391 : h0.size ≤ b1387 := Nat.le_trans f1392 (Nat.le_of_eq g1387.symm)
 have V1393 : Arv Z h1387 b1387 k1387 .int (18 : Int32) [(.int (0 : Int32)), (.int (0 : Int32)), (.int (0 : Int32)), (.int (0 : Int32)), (.int (0 : Int32)), (.int (0 : Int32)), (.int (0 : Int32)), (.int (0 : Int32)), (.int (0 : Int32)), (.int (0 : Int32)), (.int (0 : Int32)), (.int (0 : Int32)), (.int (0 : Int32)), (.int (0 : Int32)), (.int (0 : Int32)), (.int (0 : Int32)), (.int (0 : Int32)), (.int (0 : Int32))] (.int (0 : Int32)) := (Arv.new A1387 (by decide)).pad (pad_rep [] (.int (0 : Int32)) 18)
 refine ownBy st1387 ?_
 clear st1387
 show ownG p.tables e below _ (T1387.setTop (fr_law m p1 p2 q3 q4 p5 53 (.val (.int ya)) (.val (.int yb)) (.val (.ref b1371)) .unset .unset .unset .unset .unset .unset .unset .unset .unset .unset .unset .unset .unset .unset [(.ref b1387)]))
 refine ownBy (A := T1387.setTop (fr_law m p1 p2 q3 q4 p5 56 (.val (.int ya)) (.val (.int yb)) (.val (.ref b1371)) .unset .unset .unset .unset .unset .unset .unset .unset .unset .unset .unset .unset .unset .unset [(.int (0 : Int32)), (.int (0 : Int32)), (.ref b1387), (.ref b1387)])) (fun t kt => ?_) ?_
 ·refine XS.dup X1387.here hx rfl (hb hby at_53) rfl rfl ?_
  refine XS.iconst X1387.here hx rfl (hb hby at_54) ?_
  refine XS.iconst X1387.here hx rfl (hb hby at_55) ?_
  exact kt
 obtain ⟨cl1394, Ar1394, q1394, S1394, N1394, H1394, G1394⟩ := id V1393
 have hin1394 : ¬ ((0 : Int32) < 0 ∨ cl1394.slots.size ≤ ((0 : Int32)).toNatClampNeg) := inb_of S1394 ⟨by decide, by decide⟩
 obtain ⟨T1394, h1394, X1394, e1394, W1394, st1394⟩ := stI X1387 hx hZ e1387 Ar1394 (j := (0 : Int32)) hin1394 (g := (fr_law m p1 p2 q3 q4 p5 56 (.val (.int ya)) (.val (.int yb)) (.val (.ref b1371)) .unset .unset .unset .unset .unset .unset .unset .unset .unset .unset .unset .unset .unset .unset [(.int (0 : Int32)), (.int (0 : Int32)), (.ref b1387), (.ref b1387)])) rfl rfl (hb hby at_56)
 have V1395 : Arv Z h1394 b1387 k1387 .int (18 : Int32) [(.int (0 : Int32)), (.int (0 : Int32)), (.int (0 : Int32)), (.int (0 : Int32)), (.int (0 : Int32)), (.int (0 : Int32)), (.int (0 : Int32)), (.int (0 : Int32)), (.int (0 : Int32)), (.int (0 : Int32)), (.int (0 : Int32)), (.int (0 : Int32)), (.int (0 : Int32)), (.int (0 : Int32)), (.int (0 : Int32)), (.int (0 : Int32)), (.int (0 : Int32)), (.int (0 : Int32))] (.int (0 : Int32)) := Arv.set Ar1394 q1394 S1394 N1394 H1394 G1394 rfl W1394 0 rfl (oLe rfl)
 clear hin1394 G1394 H1394 N1394 S1394 q1394 Ar1394 cl1394 V1393
 have N1396 := Fr.snoc X1394 Nh1386 g1389
 obtain ⟨Lh1397, Xh1397, Nh1397⟩ := oHd 2 21 X1394 N1396 rfl rfl
 refine ownBy st1394 ?_
 clear st1394
 show ownG p.tables e below _ (T1394.setTop (fr_law m p1 p2 q3 q4 p5 57 (.val (.int ya)) (.val (.int yb)) (.val (.ref b1371)) .unset .unset .unset .unset .unset .unset .unset .unset .unset .unset .unset .unset .unset .unset [(.ref b1387)]))
 refine ownBy (A := T1394.setTop (fr_law m p1 p2 q3 q4 p5 60 (.val (.int ya)) (.val (.int yb)) (.val (.ref b1371)) .unset .unset .unset .unset .unset .unset .unset .unset .unset .unset .unset .unset .unset .unset [(.int (1 : Int32)), (.int (1 : Int32)), (.ref b1387), (.ref b1387)])) (fun t kt => ?_) ?_
 ·refine XS.dup Xh1397.here hx rfl (hb hby at_57) rfl rfl ?_
  refine XS.iconst Xh1397.here hx rfl (hb hby at_58) ?_
  refine XS.iconst Xh1397.here hx rfl (hb hby at_59) ?_
  exact kt
 obtain ⟨cl1398, Ar1398, q1398, S1398, N1398, H1398, G1398⟩ := id V1395
 have hin1398 : ¬ ((1 : Int32) < 0 ∨ cl1398.slots.size ≤ ((1 : Int32)).toNatClampNeg) := inb_of S1398 ⟨by decide, by decide⟩
 obtain ⟨T1398, h1398, X1398, e1398, W1398, st1398⟩ := stI Xh1397 hx hZ e1394 Ar1398 (j := (1 : Int32)) hin1398 (g := (fr_law m p1 p2 q3 q4 p5 60 (.val (.int ya)) (.val (.int yb)) (.val (.ref b1371)) .unset .unset .unset .unset .unset .unset .unset .unset .unset .unset .unset .unset .unset .unset [(.int (1 : Int32)), (.int (1 : Int32)), (.ref b1387), (.ref b1387)])) rfl rfl (hb hby at_60)
 have V1399 : Arv Z h1398 b1387 k1387 .int (18 : Int32) [(.int (0 : Int32)), (.int (1 : Int32)), (.int (0 : Int32)), (.int (0 : Int32)), (.int (0 : Int32)), (.int (0 : Int32)), (.int (0 : Int32)), (.int (0 : Int32)), (.int (0 : Int32)), (.int (0 : Int32)), (.int (0 : Int32)), (.int (0 : Int32)), (.int (0 : Int32)), (.int (0 : Int32)), (.int (0 : Int32)), (.int (0 : Int32)), (.int (0 : Int32)), (.int (0 : Int32))] (.int (0 : Int32)) := Arv.set Ar1398 q1398 S1398 N1398 H1398 G1398 rfl W1398 1 rfl (oLe rfl)
 clear hin1398 G1398 H1398 N1398 S1398 q1398 Ar1398 cl1398 V1395
 have N1400 := Fr.snoc X1398 Nh1397 g1389
 obtain ⟨Lh1401, Xh1401, Nh1401⟩ := oHd 2 21 X1398 N1400 rfl rfl
 refine ownBy st1398 ?_
 clear st1398
 show ownG p.tables e below _ (T1398.setTop (fr_law m p1 p2 q3 q4 p5 61 (.val (.int ya)) (.val (.int yb)) (.val (.ref b1371)) .unset .unset .unset .unset .unset .unset .unset .unset .unset .unset .unset .unset .unset .unset [(.ref b1387)]))
 refine ownBy (A := T1398.setTop (fr_law m p1 p2 q3 q4 p5 64 (.val (.int ya)) (.val (.int yb)) (.val (.ref b1371)) .unset .unset .unset .unset .unset .unset .unset .unset .unset .unset .unset .unset .unset .unset [(.int (2 : Int32)), (.int (2 : Int32)), (.ref b1387), (.ref b1387)])) (fun t kt => ?_) ?_
 ·refine XS.dup Xh1401.here hx rfl (hb hby at_61) rfl rfl ?_
  refine XS.iconst Xh1401.here hx rfl (hb hby at_62) ?_
  refine XS.iconst Xh1401.here hx rfl (hb hby at_63) ?_
  exact kt
 obtain ⟨cl1402, Ar1402, q1402, S1402, N1402, H1402, G1402⟩ := id V1399
 have hin1402 : ¬ ((2 : Int32) < 0 ∨ cl1402.slots.size ≤ ((2 : Int32)).toNatClampNeg) := inb_of S1402 ⟨by decide, by decide⟩
 obtain ⟨T1402, h1402, X1402, e1402, W1402, st1402⟩ := stI Xh1401 hx hZ e1398 Ar1402 (j := (2 : Int32)) hin1402 (g := (fr_law m p1 p2 q3 q4 p5 64 (.val (.int ya)) (.val (.int yb)) (.val (.ref b1371)) .unset .unset .unset .unset .unset .unset .unset .unset .unset .unset .unset .unset .unset .unset [(.int (2 : Int32)), (.int (2 : Int32)), (.ref b1387), (.ref b1387)])) rfl rfl (hb hby at_64)
 have V1403 : Arv Z h1402 b1387 k1387 .int (18 : Int32) [(.int (0 : Int32)), (.int (1 : Int32)), (.int (2 : Int32)), (.int (0 : Int32)), (.int (0 : Int32)), (.int (0 : Int32)), (.int (0 : Int32)), (.int (0 : Int32)), (.int (0 : Int32)), (.int (0 : Int32)), (.int (0 : Int32)), (.int (0 : Int32)), (.int (0 : Int32)), (.int (0 : Int32)), (.int (0 : Int32)), (.int (0 : Int32)), (.int (0 : Int32)), (.int (0 : Int32))] (.int (0 : Int32)) := Arv.set Ar1402 q1402 S1402 N1402 H1402 G1402 rfl W1402 2 rfl (oLe rfl)
 clear hin1402 G1402 H1402 N1402 S1402 q1402 Ar1402 cl1402 V1399
 have N1404 := Fr.snoc X1402 Nh1401 g1389
 obtain ⟨Lh1405, Xh1405, Nh1405⟩ := oHd 2 21 X1402 N1404 rfl rfl
 refine ownBy st1402 ?_
 clear st1402
 show ownG p.tables e below _ (T1402.setTop (fr_law m p1 p2 q3 q4 p5 65 (.val (.int ya)) (.val (.int yb)) (.val (.ref b1371)) .unset .unset .unset .unset .unset .unset .unset .unset .unset .unset .unset .unset .unset .unset [(.ref b1387)]))
 refine ownBy (A := T1402.setTop (fr_law m p1 p2 q3 q4 p5 68 (.val (.int ya)) (.val (.int yb)) (.val (.ref b1371)) .unset .unset .unset .unset .unset .unset .unset .unset .unset .unset .unset .unset .unset .unset [(.int (0 : Int32)), (.int (3 : Int32)), (.ref b1387), (.ref b1387)])) (fun t kt => ?_) ?_
 ·refine XS.dup Xh1405.here hx rfl (hb hby at_65) rfl rfl ?_
  refine XS.iconst Xh1405.here hx rfl (hb hby at_66) ?_
  refine XS.iconst Xh1405.here hx rfl (hb hby at_67) ?_
  exact kt
 obtain ⟨cl1406, Ar1406, q1406, S1406, N1406, H1406, G1406⟩ := id V1403
 have hin1406 : ¬ ((3 : Int32) < 0 ∨ cl1406.slots.size ≤ ((3 : Int32)).toNatClampNeg) := inb_of S1406 ⟨by decide, by decide⟩
 obtain ⟨T1406, h1406, X1406, e1406, W1406, st1406⟩ := stI Xh1405 hx hZ e1402 Ar1406 (j := (3 : Int32)) hin1406 (g := (fr_law m p1 p2 q3 q4 p5 68 (.val (.int ya)) (.val (.int yb)) (.val (.ref b1371)) .unset .unset .unset .unset .unset .unset .unset .unset .unset .unset .unset .unset .unset .unset [(.int (0 : Int32)), (.int (3 : Int32)), (.ref b1387), (.ref b1387)])) rfl rfl (hb hby at_68)
 have V1407 : Arv Z h1406 b1387 k1387 .int (18 : Int32) [(.int (0 : Int32)), (.int (1 : Int32)), (.int (2 : Int32)), (.int (0 : Int32)), (.int (0 : Int32)), (.int (0 : Int32)), (.int (0 : Int32)), (.int (0 : Int32)), (.int (0 : Int32)), (.int (0 : Int32)), (.int (0 : Int32)), (.int (0 : Int32)), (.int (0 : Int32)), (.int (0 : Int32)), (.int (0 : Int32)), (.int (0 : Int32)), (.int (0 : Int32)), (.int (0 : Int32))] (.int (0 : Int32)) := Arv.set Ar1406 q1406 S1406 N1406 H1406 G1406 rfl W1406 3 rfl (oLe rfl)
 clear hin1406 G1406 H1406 N1406 S1406 q1406 Ar1406 cl1406 V1403
 have N1408 := Fr.snoc X1406 Nh1405 g1389
 obtain ⟨Lh1409, Xh1409, Nh1409⟩ := oHd 2 21 X1406 N1408 rfl rfl
 refine ownBy st1406 ?_
 clear st1406
 show ownG p.tables e below _ (T1406.setTop (fr_law m p1 p2 q3 q4 p5 69 (.val (.int ya)) (.val (.int yb)) (.val (.ref b1371)) .unset .unset .unset .unset .unset .unset .unset .unset .unset .unset .unset .unset .unset .unset [(.ref b1387)]))
 refine ownBy (A := T1406.setTop (fr_law m p1 p2 q3 q4 p5 72 (.val (.int ya)) (.val (.int yb)) (.val (.ref b1371)) .unset .unset .unset .unset .unset .unset .unset .unset .unset .unset .unset .unset .unset .unset [(.int (2 : Int32)), (.int (4 : Int32)), (.ref b1387), (.ref b1387)])) (fun t kt => ?_) ?_
 ·refine XS.dup Xh1409.here hx rfl (hb hby at_69) rfl rfl ?_
  refine XS.iconst Xh1409.here hx rfl (hb hby at_70) ?_
  refine XS.iconst Xh1409.here hx rfl (hb hby at_71) ?_
  exact kt
 obtain ⟨cl1410, Ar1410, q1410, S1410, N1410, H1410, G1410⟩ := id V1407
 have hin1410 : ¬ ((4 : Int32) < 0 ∨ cl1410.slots.size ≤ ((4 : Int32)).toNatClampNeg) := inb_of S1410 ⟨by decide, by decide⟩
 obtain ⟨T1410, h1410, X1410, e1410, W1410, st1410⟩ := stI Xh1409 hx hZ e1406 Ar1410 (j := (4 : Int32)) hin1410 (g := (fr_law m p1 p2 q3 q4 p5 72 (.val (.int ya)) (.val (.int yb)) (.val (.ref b1371)) .unset .unset .unset .unset .unset .unset .unset .unset .unset .unset .unset .unset .unset .unset [(.int (2 : Int32)), (.int (4 : Int32)), (.ref b1387), (.ref b1387)])) rfl rfl (hb hby at_72)
 have V1411 : Arv Z h1410 b1387 k1387 .int (18 : Int32) [(.int (0 : Int32)), (.int (1 : Int32)), (.int (2 : Int32)), (.int (0 : Int32)), (.int (2 : Int32)), (.int (0 : Int32)), (.int (0 : Int32)), (.int (0 : Int32)), (.int (0 : Int32)), (.int (0 : Int32)), (.int (0 : Int32)), (.int (0 : Int32)), (.int (0 : Int32)), (.int (0 : Int32)), (.int (0 : Int32)), (.int (0 : Int32)), (.int (0 : Int32)), (.int (0 : Int32))] (.int (0 : Int32)) := Arv.set Ar1410 q1410 S1410 N1410 H1410 G1410 rfl W1410 4 rfl (oLe rfl)
 clear hin1410 G1410 H1410 N1410 S1410 q1410 Ar1410 cl1410 V1407
 have N1412 := Fr.snoc X1410 Nh1409 g1389
 obtain ⟨Lh1413, Xh1413, Nh1413⟩ := oHd 2 21 X1410 N1412 rfl rfl
 refine ownBy st1410 ?_
 clear st1410
 show ownG p.tables e below _ (T1410.setTop (fr_law m p1 p2 q3 q4 p5 73 (.val (.int ya)) (.val (.int yb)) (.val (.ref b1371)) .unset .unset .unset .unset .unset .unset .unset .unset .unset .unset .unset .unset .unset .unset [(.ref b1387)]))
 refine ownBy (A := T1410.setTop (fr_law m p1 p2 q3 q4 p5 76 (.val (.int ya)) (.val (.int yb)) (.val (.ref b1371)) .unset .unset .unset .unset .unset .unset .unset .unset .unset .unset .unset .unset .unset .unset [(.int (1 : Int32)), (.int (5 : Int32)), (.ref b1387), (.ref b1387)])) (fun t kt => ?_) ?_
 ·refine XS.dup Xh1413.here hx rfl (hb hby at_73) rfl rfl ?_
  refine XS.iconst Xh1413.here hx rfl (hb hby at_74) ?_
  refine XS.iconst Xh1413.here hx rfl (hb hby at_75) ?_
  exact kt
 obtain ⟨cl1414, Ar1414, q1414, S1414, N1414, H1414, G1414⟩ := id V1411
 have hin1414 : ¬ ((5 : Int32) < 0 ∨ cl1414.slots.size ≤ ((5 : Int32)).toNatClampNeg) := inb_of S1414 ⟨by decide, by decide⟩
 obtain ⟨T1414, h1414, X1414, e1414, W1414, st1414⟩ := stI Xh1413 hx hZ e1410 Ar1414 (j := (5 : Int32)) hin1414 (g := (fr_law m p1 p2 q3 q4 p5 76 (.val (.int ya)) (.val (.int yb)) (.val (.ref b1371)) .unset .unset .unset .unset .unset .unset .unset .unset .unset .unset .unset .unset .unset .unset [(.int (1 : Int32)), (.int (5 : Int32)), (.ref b1387), (.ref b1387)])) rfl rfl (hb hby at_76)
 have V1415 : Arv Z h1414 b1387 k1387 .int (18 : Int32) [(.int (0 : Int32)), (.int (1 : Int32)), (.int (2 : Int32)), (.int (0 : Int32)), (.int (2 : Int32)), (.int (1 : Int32)), (.int (0 : Int32)), (.int (0 : Int32)), (.int (0 : Int32)), (.int (0 : Int32)), (.int (0 : Int32)), (.int (0 : Int32)), (.int (0 : Int32)), (.int (0 : Int32)), (.int (0 : Int32)), (.int (0 : Int32)), (.int (0 : Int32)), (.int (0 : Int32))] (.int (0 : Int32)) := Arv.set Ar1414 q1414 S1414 N1414 H1414 G1414 rfl W1414 5 rfl (oLe rfl)
 clear hin1414 G1414 H1414 N1414 S1414 q1414 Ar1414 cl1414 V1411
 have N1416 := Fr.snoc X1414 Nh1413 g1389
 obtain ⟨Lh1417, Xh1417, Nh1417⟩ := oHd 2 21 X1414 N1416 rfl rfl
 refine ownBy st1414 ?_
 clear st1414
 show ownG p.tables e below _ (T1414.setTop (fr_law m p1 p2 q3 q4 p5 77 (.val (.int ya)) (.val (.int yb)) (.val (.ref b1371)) .unset .unset .unset .unset .unset .unset .unset .unset .unset .unset .unset .unset .unset .unset [(.ref b1387)]))
 refine ownBy (A := T1414.setTop (fr_law m p1 p2 q3 q4 p5 81 (.val (.int ya)) (.val (.int yb)) (.val (.ref b1371)) .unset .unset .unset .unset .unset .unset .unset .unset .unset .unset .unset .unset .unset .unset [(.int (1 : Int32)), (.int (6 : Int32)), (.ref b1387), (.ref b1387)])) (fun t kt => ?_) ?_
 ·refine XS.dup Xh1417.here hx rfl (hb hby at_77) rfl rfl ?_
  refine XS.bipush Xh1417.here hx rfl (hb hby at_78) ?_
  refine XS.iconst Xh1417.here hx rfl (hb hby at_80) ?_
  exact kt
 obtain ⟨cl1418, Ar1418, q1418, S1418, N1418, H1418, G1418⟩ := id V1415
 have hin1418 : ¬ ((6 : Int32) < 0 ∨ cl1418.slots.size ≤ ((6 : Int32)).toNatClampNeg) := inb_of S1418 ⟨by decide, by decide⟩
 obtain ⟨T1418, h1418, X1418, e1418, W1418, st1418⟩ := stI Xh1417 hx hZ e1414 Ar1418 (j := (6 : Int32)) hin1418 (g := (fr_law m p1 p2 q3 q4 p5 81 (.val (.int ya)) (.val (.int yb)) (.val (.ref b1371)) .unset .unset .unset .unset .unset .unset .unset .unset .unset .unset .unset .unset .unset .unset [(.int (1 : Int32)), (.int (6 : Int32)), (.ref b1387), (.ref b1387)])) rfl rfl (hb hby at_81)
 have V1419 : Arv Z h1418 b1387 k1387 .int (18 : Int32) [(.int (0 : Int32)), (.int (1 : Int32)), (.int (2 : Int32)), (.int (0 : Int32)), (.int (2 : Int32)), (.int (1 : Int32)), (.int (1 : Int32)), (.int (0 : Int32)), (.int (0 : Int32)), (.int (0 : Int32)), (.int (0 : Int32)), (.int (0 : Int32)), (.int (0 : Int32)), (.int (0 : Int32)), (.int (0 : Int32)), (.int (0 : Int32)), (.int (0 : Int32)), (.int (0 : Int32))] (.int (0 : Int32)) := Arv.set Ar1418 q1418 S1418 N1418 H1418 G1418 rfl W1418 6 rfl (oLe rfl)
 clear hin1418 G1418 H1418 N1418 S1418 q1418 Ar1418 cl1418 V1415
 have N1420 := Fr.snoc X1418 Nh1417 g1389
 obtain ⟨Lh1421, Xh1421, Nh1421⟩ := oHd 2 21 X1418 N1420 rfl rfl
 refine ownBy st1418 ?_
 clear st1418
 show ownG p.tables e below _ (T1418.setTop (fr_law m p1 p2 q3 q4 p5 82 (.val (.int ya)) (.val (.int yb)) (.val (.ref b1371)) .unset .unset .unset .unset .unset .unset .unset .unset .unset .unset .unset .unset .unset .unset [(.ref b1387)]))
 refine ownBy (A := T1418.setTop (fr_law m p1 p2 q3 q4 p5 86 (.val (.int ya)) (.val (.int yb)) (.val (.ref b1371)) .unset .unset .unset .unset .unset .unset .unset .unset .unset .unset .unset .unset .unset .unset [(.int (0 : Int32)), (.int (7 : Int32)), (.ref b1387), (.ref b1387)])) (fun t kt => ?_) ?_
 ·refine XS.dup Xh1421.here hx rfl (hb hby at_82) rfl rfl ?_
  refine XS.bipush Xh1421.here hx rfl (hb hby at_83) ?_
  refine XS.iconst Xh1421.here hx rfl (hb hby at_85) ?_
  exact kt
 obtain ⟨cl1422, Ar1422, q1422, S1422, N1422, H1422, G1422⟩ := id V1419
 have hin1422 : ¬ ((7 : Int32) < 0 ∨ cl1422.slots.size ≤ ((7 : Int32)).toNatClampNeg) := inb_of S1422 ⟨by decide, by decide⟩
 obtain ⟨T1422, h1422, X1422, e1422, W1422, st1422⟩ := stI Xh1421 hx hZ e1418 Ar1422 (j := (7 : Int32)) hin1422 (g := (fr_law m p1 p2 q3 q4 p5 86 (.val (.int ya)) (.val (.int yb)) (.val (.ref b1371)) .unset .unset .unset .unset .unset .unset .unset .unset .unset .unset .unset .unset .unset .unset [(.int (0 : Int32)), (.int (7 : Int32)), (.ref b1387), (.ref b1387)])) rfl rfl (hb hby at_86)
 have V1423 : Arv Z h1422 b1387 k1387 .int (18 : Int32) [(.int (0 : Int32)), (.int (1 : Int32)), (.int (2 : Int32)), (.int (0 : Int32)), (.int (2 : Int32)), (.int (1 : Int32)), (.int (1 : Int32)), (.int (0 : Int32)), (.int (0 : Int32)), (.int (0 : Int32)), (.int (0 : Int32)), (.int (0 : Int32)), (.int (0 : Int32)), (.int (0 : Int32)), (.int (0 : Int32)), (.int (0 : Int32)), (.int (0 : Int32)), (.int (0 : Int32))] (.int (0 : Int32)) := Arv.set Ar1422 q1422 S1422 N1422 H1422 G1422 rfl W1422 7 rfl (oLe rfl)
 clear hin1422 G1422 H1422 N1422 S1422 q1422 Ar1422 cl1422 V1419
 have N1424 := Fr.snoc X1422 Nh1421 g1389
 obtain ⟨Lh1425, Xh1425, Nh1425⟩ := oHd 2 21 X1422 N1424 rfl rfl
 refine ownBy st1422 ?_
 clear st1422
 show ownG p.tables e below _ (T1422.setTop (fr_law m p1 p2 q3 q4 p5 87 (.val (.int ya)) (.val (.int yb)) (.val (.ref b1371)) .unset .unset .unset .unset .unset .unset .unset .unset .unset .unset .unset .unset .unset .unset [(.ref b1387)]))
 refine ownBy (A := T1422.setTop (fr_law m p1 p2 q3 q4 p5 91 (.val (.int ya)) (.val (.int yb)) (.val (.ref b1371)) .unset .unset .unset .unset .unset .unset .unset .unset .unset .unset .unset .unset .unset .unset [(.int (2 : Int32)), (.int (8 : Int32)), (.ref b1387), (.ref b1387)])) (fun t kt => ?_) ?_
 ·refine XS.dup Xh1425.here hx rfl (hb hby at_87) rfl rfl ?_
  refine XS.bipush Xh1425.here hx rfl (hb hby at_88) ?_
  refine XS.iconst Xh1425.here hx rfl (hb hby at_90) ?_
  exact kt
 obtain ⟨cl1426, Ar1426, q1426, S1426, N1426, H1426, G1426⟩ := id V1423
 have hin1426 : ¬ ((8 : Int32) < 0 ∨ cl1426.slots.size ≤ ((8 : Int32)).toNatClampNeg) := inb_of S1426 ⟨by decide, by decide⟩
 obtain ⟨T1426, h1426, X1426, e1426, W1426, st1426⟩ := stI Xh1425 hx hZ e1422 Ar1426 (j := (8 : Int32)) hin1426 (g := (fr_law m p1 p2 q3 q4 p5 91 (.val (.int ya)) (.val (.int yb)) (.val (.ref b1371)) .unset .unset .unset .unset .unset .unset .unset .unset .unset .unset .unset .unset .unset .unset [(.int (2 : Int32)), (.int (8 : Int32)), (.ref b1387), (.ref b1387)])) rfl rfl (hb hby at_91)
 have V1427 : Arv Z h1426 b1387 k1387 .int (18 : Int32) [(.int (0 : Int32)), (.int (1 : Int32)), (.int (2 : Int32)), (.int (0 : Int32)), (.int (2 : Int32)), (.int (1 : Int32)), (.int (1 : Int32)), (.int (0 : Int32)), (.int (2 : Int32)), (.int (0 : Int32)), (.int (0 : Int32)), (.int (0 : Int32)), (.int (0 : Int32)), (.int (0 : Int32)), (.int (0 : Int32)), (.int (0 : Int32)), (.int (0 : Int32)), (.int (0 : Int32))] (.int (0 : Int32)) := Arv.set Ar1426 q1426 S1426 N1426 H1426 G1426 rfl W1426 8 rfl (oLe rfl)
 clear hin1426 G1426 H1426 N1426 S1426 q1426 Ar1426 cl1426 V1423
 have N1428 := Fr.snoc X1426 Nh1425 g1389
 obtain ⟨Lh1429, Xh1429, Nh1429⟩ := oHd 2 21 X1426 N1428 rfl rfl
 refine ownBy st1426 ?_
 clear st1426
 show ownG p.tables e below _ (T1426.setTop (fr_law m p1 p2 q3 q4 p5 92 (.val (.int ya)) (.val (.int yb)) (.val (.ref b1371)) .unset .unset .unset .unset .unset .unset .unset .unset .unset .unset .unset .unset .unset .unset [(.ref b1387)]))
 refine ownBy (A := T1426.setTop (fr_law m p1 p2 q3 q4 p5 96 (.val (.int ya)) (.val (.int yb)) (.val (.ref b1371)) .unset .unset .unset .unset .unset .unset .unset .unset .unset .unset .unset .unset .unset .unset [(.int (1 : Int32)), (.int (9 : Int32)), (.ref b1387), (.ref b1387)])) (fun t kt => ?_) ?_
 ·refine XS.dup Xh1429.here hx rfl (hb hby at_92) rfl rfl ?_
  refine XS.bipush Xh1429.here hx rfl (hb hby at_93) ?_
  refine XS.iconst Xh1429.here hx rfl (hb hby at_95) ?_
  exact kt
 obtain ⟨cl1430, Ar1430, q1430, S1430, N1430, H1430, G1430⟩ := id V1427
 have hin1430 : ¬ ((9 : Int32) < 0 ∨ cl1430.slots.size ≤ ((9 : Int32)).toNatClampNeg) := inb_of S1430 ⟨by decide, by decide⟩
 obtain ⟨T1430, h1430, X1430, e1430, W1430, st1430⟩ := stI Xh1429 hx hZ e1426 Ar1430 (j := (9 : Int32)) hin1430 (g := (fr_law m p1 p2 q3 q4 p5 96 (.val (.int ya)) (.val (.int yb)) (.val (.ref b1371)) .unset .unset .unset .unset .unset .unset .unset .unset .unset .unset .unset .unset .unset .unset [(.int (1 : Int32)), (.int (9 : Int32)), (.ref b1387), (.ref b1387)])) rfl rfl (hb hby at_96)
 have V1431 : Arv Z h1430 b1387 k1387 .int (18 : Int32) [(.int (0 : Int32)), (.int (1 : Int32)), (.int (2 : Int32)), (.int (0 : Int32)), (.int (2 : Int32)), (.int (1 : Int32)), (.int (1 : Int32)), (.int (0 : Int32)), (.int (2 : Int32)), (.int (1 : Int32)), (.int (0 : Int32)), (.int (0 : Int32)), (.int (0 : Int32)), (.int (0 : Int32)), (.int (0 : Int32)), (.int (0 : Int32)), (.int (0 : Int32)), (.int (0 : Int32))] (.int (0 : Int32)) := Arv.set Ar1430 q1430 S1430 N1430 H1430 G1430 rfl W1430 9 rfl (oLe rfl)
 clear hin1430 G1430 H1430 N1430 S1430 q1430 Ar1430 cl1430 V1427
 have N1432 := Fr.snoc X1430 Nh1429 g1389
 obtain ⟨Lh1433, Xh1433, Nh1433⟩ := oHd 2 21 X1430 N1432 rfl rfl
 refine ownBy st1430 ?_
 clear st1430
 show ownG p.tables e below _ (T1430.setTop (fr_law m p1 p2 q3 q4 p5 97 (.val (.int ya)) (.val (.int yb)) (.val (.ref b1371)) .unset .unset .unset .unset .unset .unset .unset .unset .unset .unset .unset .unset .unset .unset [(.ref b1387)]))
 refine ownBy (A := T1430.setTop (fr_law m p1 p2 q3 q4 p5 101 (.val (.int ya)) (.val (.int yb)) (.val (.ref b1371)) .unset .unset .unset .unset .unset .unset .unset .unset .unset .unset .unset .unset .unset .unset [(.int (2 : Int32)), (.int (10 : Int32)), (.ref b1387), (.ref b1387)])) (fun t kt => ?_) ?_
 ·refine XS.dup Xh1433.here hx rfl (hb hby at_97) rfl rfl ?_
  refine XS.bipush Xh1433.here hx rfl (hb hby at_98) ?_
  refine XS.iconst Xh1433.here hx rfl (hb hby at_100) ?_
  exact kt
 obtain ⟨cl1434, Ar1434, q1434, S1434, N1434, H1434, G1434⟩ := id V1431
 have hin1434 : ¬ ((10 : Int32) < 0 ∨ cl1434.slots.size ≤ ((10 : Int32)).toNatClampNeg) := inb_of S1434 ⟨by decide, by decide⟩
 obtain ⟨T1434, h1434, X1434, e1434, W1434, st1434⟩ := stI Xh1433 hx hZ e1430 Ar1434 (j := (10 : Int32)) hin1434 (g := (fr_law m p1 p2 q3 q4 p5 101 (.val (.int ya)) (.val (.int yb)) (.val (.ref b1371)) .unset .unset .unset .unset .unset .unset .unset .unset .unset .unset .unset .unset .unset .unset [(.int (2 : Int32)), (.int (10 : Int32)), (.ref b1387), (.ref b1387)])) rfl rfl (hb hby at_101)
 have V1435 : Arv Z h1434 b1387 k1387 .int (18 : Int32) [(.int (0 : Int32)), (.int (1 : Int32)), (.int (2 : Int32)), (.int (0 : Int32)), (.int (2 : Int32)), (.int (1 : Int32)), (.int (1 : Int32)), (.int (0 : Int32)), (.int (2 : Int32)), (.int (1 : Int32)), (.int (2 : Int32)), (.int (0 : Int32)), (.int (0 : Int32)), (.int (0 : Int32)), (.int (0 : Int32)), (.int (0 : Int32)), (.int (0 : Int32)), (.int (0 : Int32))] (.int (0 : Int32)) := Arv.set Ar1434 q1434 S1434 N1434 H1434 G1434 rfl W1434 10 rfl (oLe rfl)
 clear hin1434 G1434 H1434 N1434 S1434 q1434 Ar1434 cl1434 V1431
 have N1436 := Fr.snoc X1434 Nh1433 g1389
 obtain ⟨Lh1437, Xh1437, Nh1437⟩ := oHd 2 21 X1434 N1436 rfl rfl
 refine ownBy st1434 ?_
 clear st1434
 show ownG p.tables e below _ (T1434.setTop (fr_law m p1 p2 q3 q4 p5 102 (.val (.int ya)) (.val (.int yb)) (.val (.ref b1371)) .unset .unset .unset .unset .unset .unset .unset .unset .unset .unset .unset .unset .unset .unset [(.ref b1387)]))
 refine ownBy (A := T1434.setTop (fr_law m p1 p2 q3 q4 p5 106 (.val (.int ya)) (.val (.int yb)) (.val (.ref b1371)) .unset .unset .unset .unset .unset .unset .unset .unset .unset .unset .unset .unset .unset .unset [(.int (0 : Int32)), (.int (11 : Int32)), (.ref b1387), (.ref b1387)])) (fun t kt => ?_) ?_
 ·refine XS.dup Xh1437.here hx rfl (hb hby at_102) rfl rfl ?_
  refine XS.bipush Xh1437.here hx rfl (hb hby at_103) ?_
  refine XS.iconst Xh1437.here hx rfl (hb hby at_105) ?_
  exact kt
 obtain ⟨cl1438, Ar1438, q1438, S1438, N1438, H1438, G1438⟩ := id V1435
 have hin1438 : ¬ ((11 : Int32) < 0 ∨ cl1438.slots.size ≤ ((11 : Int32)).toNatClampNeg) := inb_of S1438 ⟨by decide, by decide⟩
 obtain ⟨T1438, h1438, X1438, e1438, W1438, st1438⟩ := stI Xh1437 hx hZ e1434 Ar1438 (j := (11 : Int32)) hin1438 (g := (fr_law m p1 p2 q3 q4 p5 106 (.val (.int ya)) (.val (.int yb)) (.val (.ref b1371)) .unset .unset .unset .unset .unset .unset .unset .unset .unset .unset .unset .unset .unset .unset [(.int (0 : Int32)), (.int (11 : Int32)), (.ref b1387), (.ref b1387)])) rfl rfl (hb hby at_106)
 have V1439 : Arv Z h1438 b1387 k1387 .int (18 : Int32) [(.int (0 : Int32)), (.int (1 : Int32)), (.int (2 : Int32)), (.int (0 : Int32)), (.int (2 : Int32)), (.int (1 : Int32)), (.int (1 : Int32)), (.int (0 : Int32)), (.int (2 : Int32)), (.int (1 : Int32)), (.int (2 : Int32)), (.int (0 : Int32)), (.int (0 : Int32)), (.int (0 : Int32)), (.int (0 : Int32)), (.int (0 : Int32)), (.int (0 : Int32)), (.int (0 : Int32))] (.int (0 : Int32)) := Arv.set Ar1438 q1438 S1438 N1438 H1438 G1438 rfl W1438 11 rfl (oLe rfl)
 clear hin1438 G1438 H1438 N1438 S1438 q1438 Ar1438 cl1438 V1435
 have N1440 := Fr.snoc X1438 Nh1437 g1389
 obtain ⟨Lh1441, Xh1441, Nh1441⟩ := oHd 2 21 X1438 N1440 rfl rfl
 refine ownBy st1438 ?_
 clear st1438
 show ownG p.tables e below _ (T1438.setTop (fr_law m p1 p2 q3 q4 p5 107 (.val (.int ya)) (.val (.int yb)) (.val (.ref b1371)) .unset .unset .unset .unset .unset .unset .unset .unset .unset .unset .unset .unset .unset .unset [(.ref b1387)]))
 refine ownBy (A := T1438.setTop (fr_law m p1 p2 q3 q4 p5 111 (.val (.int ya)) (.val (.int yb)) (.val (.ref b1371)) .unset .unset .unset .unset .unset .unset .unset .unset .unset .unset .unset .unset .unset .unset [(.int (2 : Int32)), (.int (12 : Int32)), (.ref b1387), (.ref b1387)])) (fun t kt => ?_) ?_
 ·refine XS.dup Xh1441.here hx rfl (hb hby at_107) rfl rfl ?_
  refine XS.bipush Xh1441.here hx rfl (hb hby at_108) ?_
  refine XS.iconst Xh1441.here hx rfl (hb hby at_110) ?_
  exact kt
 obtain ⟨cl1442, Ar1442, q1442, S1442, N1442, H1442, G1442⟩ := id V1439
 have hin1442 : ¬ ((12 : Int32) < 0 ∨ cl1442.slots.size ≤ ((12 : Int32)).toNatClampNeg) := inb_of S1442 ⟨by decide, by decide⟩
 obtain ⟨T1442, h1442, X1442, e1442, W1442, st1442⟩ := stI Xh1441 hx hZ e1438 Ar1442 (j := (12 : Int32)) hin1442 (g := (fr_law m p1 p2 q3 q4 p5 111 (.val (.int ya)) (.val (.int yb)) (.val (.ref b1371)) .unset .unset .unset .unset .unset .unset .unset .unset .unset .unset .unset .unset .unset .unset [(.int (2 : Int32)), (.int (12 : Int32)), (.ref b1387), (.ref b1387)])) rfl rfl (hb hby at_111)
 have V1443 : Arv Z h1442 b1387 k1387 .int (18 : Int32) [(.int (0 : Int32)), (.int (1 : Int32)), (.int (2 : Int32)), (.int (0 : Int32)), (.int (2 : Int32)), (.int (1 : Int32)), (.int (1 : Int32)), (.int (0 : Int32)), (.int (2 : Int32)), (.int (1 : Int32)), (.int (2 : Int32)), (.int (0 : Int32)), (.int (2 : Int32)), (.int (0 : Int32)), (.int (0 : Int32)), (.int (0 : Int32)), (.int (0 : Int32)), (.int (0 : Int32))] (.int (0 : Int32)) := Arv.set Ar1442 q1442 S1442 N1442 H1442 G1442 rfl W1442 12 rfl (oLe rfl)
 clear hin1442 G1442 H1442 N1442 S1442 q1442 Ar1442 cl1442 V1439
 have N1444 := Fr.snoc X1442 Nh1441 g1389
 obtain ⟨Lh1445, Xh1445, Nh1445⟩ := oHd 2 21 X1442 N1444 rfl rfl
 refine ownBy st1442 ?_
 clear st1442
 show ownG p.tables e below _ (T1442.setTop (fr_law m p1 p2 q3 q4 p5 112 (.val (.int ya)) (.val (.int yb)) (.val (.ref b1371)) .unset .unset .unset .unset .unset .unset .unset .unset .unset .unset .unset .unset .unset .unset [(.ref b1387)]))
 refine ownBy (A := T1442.setTop (fr_law m p1 p2 q3 q4 p5 116 (.val (.int ya)) (.val (.int yb)) (.val (.ref b1371)) .unset .unset .unset .unset .unset .unset .unset .unset .unset .unset .unset .unset .unset .unset [(.int (0 : Int32)), (.int (13 : Int32)), (.ref b1387), (.ref b1387)])) (fun t kt => ?_) ?_
 ·refine XS.dup Xh1445.here hx rfl (hb hby at_112) rfl rfl ?_
  refine XS.bipush Xh1445.here hx rfl (hb hby at_113) ?_
  refine XS.iconst Xh1445.here hx rfl (hb hby at_115) ?_
  exact kt
 obtain ⟨cl1446, Ar1446, q1446, S1446, N1446, H1446, G1446⟩ := id V1443
 have hin1446 : ¬ ((13 : Int32) < 0 ∨ cl1446.slots.size ≤ ((13 : Int32)).toNatClampNeg) := inb_of S1446 ⟨by decide, by decide⟩
 obtain ⟨T1446, h1446, X1446, e1446, W1446, st1446⟩ := stI Xh1445 hx hZ e1442 Ar1446 (j := (13 : Int32)) hin1446 (g := (fr_law m p1 p2 q3 q4 p5 116 (.val (.int ya)) (.val (.int yb)) (.val (.ref b1371)) .unset .unset .unset .unset .unset .unset .unset .unset .unset .unset .unset .unset .unset .unset [(.int (0 : Int32)), (.int (13 : Int32)), (.ref b1387), (.ref b1387)])) rfl rfl (hb hby at_116)
 have V1447 : Arv Z h1446 b1387 k1387 .int (18 : Int32) [(.int (0 : Int32)), (.int (1 : Int32)), (.int (2 : Int32)), (.int (0 : Int32)), (.int (2 : Int32)), (.int (1 : Int32)), (.int (1 : Int32)), (.int (0 : Int32)), (.int (2 : Int32)), (.int (1 : Int32)), (.int (2 : Int32)), (.int (0 : Int32)), (.int (2 : Int32)), (.int (0 : Int32)), (.int (0 : Int32)), (.int (0 : Int32)), (.int (0 : Int32)), (.int (0 : Int32))] (.int (0 : Int32)) := Arv.set Ar1446 q1446 S1446 N1446 H1446 G1446 rfl W1446 13 rfl (oLe rfl)
 clear hin1446 G1446 H1446 N1446 S1446 q1446 Ar1446 cl1446 V1443
 have N1448 := Fr.snoc X1446 Nh1445 g1389
 obtain ⟨Lh1449, Xh1449, Nh1449⟩ := oHd 2 21 X1446 N1448 rfl rfl
 refine ownBy st1446 ?_
 clear st1446
 show ownG p.tables e below _ (T1446.setTop (fr_law m p1 p2 q3 q4 p5 117 (.val (.int ya)) (.val (.int yb)) (.val (.ref b1371)) .unset .unset .unset .unset .unset .unset .unset .unset .unset .unset .unset .unset .unset .unset [(.ref b1387)]))
 refine ownBy (A := T1446.setTop (fr_law m p1 p2 q3 q4 p5 121 (.val (.int ya)) (.val (.int yb)) (.val (.ref b1371)) .unset .unset .unset .unset .unset .unset .unset .unset .unset .unset .unset .unset .unset .unset [(.int (1 : Int32)), (.int (14 : Int32)), (.ref b1387), (.ref b1387)])) (fun t kt => ?_) ?_
 ·refine XS.dup Xh1449.here hx rfl (hb hby at_117) rfl rfl ?_
  refine XS.bipush Xh1449.here hx rfl (hb hby at_118) ?_
  refine XS.iconst Xh1449.here hx rfl (hb hby at_120) ?_
  exact kt
 obtain ⟨cl1450, Ar1450, q1450, S1450, N1450, H1450, G1450⟩ := id V1447
 have hin1450 : ¬ ((14 : Int32) < 0 ∨ cl1450.slots.size ≤ ((14 : Int32)).toNatClampNeg) := inb_of S1450 ⟨by decide, by decide⟩
 obtain ⟨T1450, h1450, X1450, e1450, W1450, st1450⟩ := stI Xh1449 hx hZ e1446 Ar1450 (j := (14 : Int32)) hin1450 (g := (fr_law m p1 p2 q3 q4 p5 121 (.val (.int ya)) (.val (.int yb)) (.val (.ref b1371)) .unset .unset .unset .unset .unset .unset .unset .unset .unset .unset .unset .unset .unset .unset [(.int (1 : Int32)), (.int (14 : Int32)), (.ref b1387), (.ref b1387)])) rfl rfl (hb hby at_121)
 have V1451 : Arv Z h1450 b1387 k1387 .int (18 : Int32) [(.int (0 : Int32)), (.int (1 : Int32)), (.int (2 : Int32)), (.int (0 : Int32)), (.int (2 : Int32)), (.int (1 : Int32)), (.int (1 : Int32)), (.int (0 : Int32)), (.int (2 : Int32)), (.int (1 : Int32)), (.int (2 : Int32)), (.int (0 : Int32)), (.int (2 : Int32)), (.int (0 : Int32)), (.int (1 : Int32)), (.int (0 : Int32)), (.int (0 : Int32)), (.int (0 : Int32))] (.int (0 : Int32)) := Arv.set Ar1450 q1450 S1450 N1450 H1450 G1450 rfl W1450 14 rfl (oLe rfl)
 clear hin1450 G1450 H1450 N1450 S1450 q1450 Ar1450 cl1450 V1447
 have N1452 := Fr.snoc X1450 Nh1449 g1389
 obtain ⟨Lh1453, Xh1453, Nh1453⟩ := oHd 2 21 X1450 N1452 rfl rfl
 refine ownBy st1450 ?_
 clear st1450
 show ownG p.tables e below _ (T1450.setTop (fr_law m p1 p2 q3 q4 p5 122 (.val (.int ya)) (.val (.int yb)) (.val (.ref b1371)) .unset .unset .unset .unset .unset .unset .unset .unset .unset .unset .unset .unset .unset .unset [(.ref b1387)]))
 refine ownBy (A := T1450.setTop (fr_law m p1 p2 q3 q4 p5 126 (.val (.int ya)) (.val (.int yb)) (.val (.ref b1371)) .unset .unset .unset .unset .unset .unset .unset .unset .unset .unset .unset .unset .unset .unset [(.int (2 : Int32)), (.int (15 : Int32)), (.ref b1387), (.ref b1387)])) (fun t kt => ?_) ?_
 ·refine XS.dup Xh1453.here hx rfl (hb hby at_122) rfl rfl ?_
  refine XS.bipush Xh1453.here hx rfl (hb hby at_123) ?_
  refine XS.iconst Xh1453.here hx rfl (hb hby at_125) ?_
  exact kt
 obtain ⟨cl1454, Ar1454, q1454, S1454, N1454, H1454, G1454⟩ := id V1451
 have hin1454 : ¬ ((15 : Int32) < 0 ∨ cl1454.slots.size ≤ ((15 : Int32)).toNatClampNeg) := inb_of S1454 ⟨by decide, by decide⟩
 obtain ⟨T1454, h1454, X1454, e1454, W1454, st1454⟩ := stI Xh1453 hx hZ e1450 Ar1454 (j := (15 : Int32)) hin1454 (g := (fr_law m p1 p2 q3 q4 p5 126 (.val (.int ya)) (.val (.int yb)) (.val (.ref b1371)) .unset .unset .unset .unset .unset .unset .unset .unset .unset .unset .unset .unset .unset .unset [(.int (2 : Int32)), (.int (15 : Int32)), (.ref b1387), (.ref b1387)])) rfl rfl (hb hby at_126)
 have V1455 : Arv Z h1454 b1387 k1387 .int (18 : Int32) [(.int (0 : Int32)), (.int (1 : Int32)), (.int (2 : Int32)), (.int (0 : Int32)), (.int (2 : Int32)), (.int (1 : Int32)), (.int (1 : Int32)), (.int (0 : Int32)), (.int (2 : Int32)), (.int (1 : Int32)), (.int (2 : Int32)), (.int (0 : Int32)), (.int (2 : Int32)), (.int (0 : Int32)), (.int (1 : Int32)), (.int (2 : Int32)), (.int (0 : Int32)), (.int (0 : Int32))] (.int (0 : Int32)) := Arv.set Ar1454 q1454 S1454 N1454 H1454 G1454 rfl W1454 15 rfl (oLe rfl)
 clear hin1454 G1454 H1454 N1454 S1454 q1454 Ar1454 cl1454 V1451
 have N1456 := Fr.snoc X1454 Nh1453 g1389
 obtain ⟨Lh1457, Xh1457, Nh1457⟩ := oHd 2 21 X1454 N1456 rfl rfl
 refine ownBy st1454 ?_
 clear st1454
 show ownG p.tables e below _ (T1454.setTop (fr_law m p1 p2 q3 q4 p5 127 (.val (.int ya)) (.val (.int yb)) (.val (.ref b1371)) .unset .unset .unset .unset .unset .unset .unset .unset .unset .unset .unset .unset .unset .unset [(.ref b1387)]))
 refine ownBy (A := T1454.setTop (fr_law m p1 p2 q3 q4 p5 131 (.val (.int ya)) (.val (.int yb)) (.val (.ref b1371)) .unset .unset .unset .unset .unset .unset .unset .unset .unset .unset .unset .unset .unset .unset [(.int (1 : Int32)), (.int (16 : Int32)), (.ref b1387), (.ref b1387)])) (fun t kt => ?_) ?_
 ·refine XS.dup Xh1457.here hx rfl (hb hby at_127) rfl rfl ?_
  refine XS.bipush Xh1457.here hx rfl (hb hby at_128) ?_
  refine XS.iconst Xh1457.here hx rfl (hb hby at_130) ?_
  exact kt
 obtain ⟨cl1458, Ar1458, q1458, S1458, N1458, H1458, G1458⟩ := id V1455
 have hin1458 : ¬ ((16 : Int32) < 0 ∨ cl1458.slots.size ≤ ((16 : Int32)).toNatClampNeg) := inb_of S1458 ⟨by decide, by decide⟩
 obtain ⟨T1458, h1458, X1458, e1458, W1458, st1458⟩ := stI Xh1457 hx hZ e1454 Ar1458 (j := (16 : Int32)) hin1458 (g := (fr_law m p1 p2 q3 q4 p5 131 (.val (.int ya)) (.val (.int yb)) (.val (.ref b1371)) .unset .unset .unset .unset .unset .unset .unset .unset .unset .unset .unset .unset .unset .unset [(.int (1 : Int32)), (.int (16 : Int32)), (.ref b1387), (.ref b1387)])) rfl rfl (hb hby at_131)
 have V1459 : Arv Z h1458 b1387 k1387 .int (18 : Int32) [(.int (0 : Int32)), (.int (1 : Int32)), (.int (2 : Int32)), (.int (0 : Int32)), (.int (2 : Int32)), (.int (1 : Int32)), (.int (1 : Int32)), (.int (0 : Int32)), (.int (2 : Int32)), (.int (1 : Int32)), (.int (2 : Int32)), (.int (0 : Int32)), (.int (2 : Int32)), (.int (0 : Int32)), (.int (1 : Int32)), (.int (2 : Int32)), (.int (1 : Int32)), (.int (0 : Int32))] (.int (0 : Int32)) := Arv.set Ar1458 q1458 S1458 N1458 H1458 G1458 rfl W1458 16 rfl (oLe rfl)
 clear hin1458 G1458 H1458 N1458 S1458 q1458 Ar1458 cl1458 V1455
 have N1460 := Fr.snoc X1458 Nh1457 g1389
 obtain ⟨Lh1461, Xh1461, Nh1461⟩ := oHd 2 21 X1458 N1460 rfl rfl
 refine ownBy st1458 ?_
 clear st1458
 show ownG p.tables e below _ (T1458.setTop (fr_law m p1 p2 q3 q4 p5 132 (.val (.int ya)) (.val (.int yb)) (.val (.ref b1371)) .unset .unset .unset .unset .unset .unset .unset .unset .unset .unset .unset .unset .unset .unset [(.ref b1387)]))
 refine ownBy (A := T1458.setTop (fr_law m p1 p2 q3 q4 p5 136 (.val (.int ya)) (.val (.int yb)) (.val (.ref b1371)) .unset .unset .unset .unset .unset .unset .unset .unset .unset .unset .unset .unset .unset .unset [(.int (0 : Int32)), (.int (17 : Int32)), (.ref b1387), (.ref b1387)])) (fun t kt => ?_) ?_
 ·refine XS.dup Xh1461.here hx rfl (hb hby at_132) rfl rfl ?_
  refine XS.bipush Xh1461.here hx rfl (hb hby at_133) ?_
  refine XS.iconst Xh1461.here hx rfl (hb hby at_135) ?_
  exact kt
 obtain ⟨cl1462, Ar1462, q1462, S1462, N1462, H1462, G1462⟩ := id V1459
 have hin1462 : ¬ ((17 : Int32) < 0 ∨ cl1462.slots.size ≤ ((17 : Int32)).toNatClampNeg) := inb_of S1462 ⟨by decide, by decide⟩
 obtain ⟨T1462, h1462, X1462, e1462, W1462, st1462⟩ := stI Xh1461 hx hZ e1458 Ar1462 (j := (17 : Int32)) hin1462 (g := (fr_law m p1 p2 q3 q4 p5 136 (.val (.int ya)) (.val (.int yb)) (.val (.ref b1371)) .unset .unset .unset .unset .unset .unset .unset .unset .unset .unset .unset .unset .unset .unset [(.int (0 : Int32)), (.int (17 : Int32)), (.ref b1387), (.ref b1387)])) rfl rfl (hb hby at_136)
 have V1463 : Arv Z h1462 b1387 k1387 .int (18 : Int32) [(.int (0 : Int32)), (.int (1 : Int32)), (.int (2 : Int32)), (.int (0 : Int32)), (.int (2 : Int32)), (.int (1 : Int32)), (.int (1 : Int32)), (.int (0 : Int32)), (.int (2 : Int32)), (.int (1 : Int32)), (.int (2 : Int32)), (.int (0 : Int32)), (.int (2 : Int32)), (.int (0 : Int32)), (.int (1 : Int32)), (.int (2 : Int32)), (.int (1 : Int32)), (.int (0 : Int32))] (.int (0 : Int32)) := Arv.set Ar1462 q1462 S1462 N1462 H1462 G1462 rfl W1462 17 rfl (oLe rfl)
 clear hin1462 G1462 H1462 N1462 S1462 q1462 Ar1462 cl1462 V1459
 have N1464 := Fr.snoc X1462 Nh1461 g1389
 obtain ⟨Lh1465, Xh1465, Nh1465⟩ := oHd 2 21 X1462 N1464 rfl rfl
 refine ownBy st1462 ?_
 clear st1462
 show ownG p.tables e below _ (T1462.setTop (fr_law m p1 p2 q3 q4 p5 137 (.val (.int ya)) (.val (.int yb)) (.val (.ref b1371)) .unset .unset .unset .unset .unset .unset .unset .unset .unset .unset .unset .unset .unset .unset [(.ref b1387)]))
 refine ownBy (A := T1462.setTop (fr_law m p1 p2 q3 q4 p5 139 (.val (.int ya)) (.val (.int yb)) (.val (.ref b1371)) (.val (.ref b1387)) .unset .unset .unset .unset .unset .unset .unset .unset .unset .unset .unset .unset .unset [])) (fun t kt => ?_) ?_
 ·refine XS.astore Xh1465.here hx rfl (hb hby at_137) rfl rfl (l' := #[.val (.int p1), .val (.int p2), .val (.long q3), .second, .val (.long q4), .second, .val (.int p5), .val (.int p1), .val (.int ya), .val (.int yb), .val (.ref b1371), .val (.ref b1387), .unset, .unset, .unset, .unset, .unset, .unset, .unset, .unset, .unset, .unset, .unset, .unset, .unset]) rfl ?_
  exact kt
 have f1466 := (((((((((((((((((((V1384.ext E1387).other W1394 ne1388).other W1398 ne1388).other W1402 ne1388).other W1406 ne1388).other W1410 ne1388).other W1414 ne1388).other W1418 ne1388).other W1422 ne1388).other W1426 ne1388).other W1430 ne1388).other W1434 ne1388).other W1438 ne1388).other W1442 ne1388).other W1446 ne1388).other W1450 ne1388).other W1454 ne1388).other W1458 ne1388).other W1462 ne1388)
 refine ownBy (A := T1462.setTop (fr_law m p1 p2 q3 q4 p5 149 (.val (.int ya)) (.val (.int yb)) (.val (.ref b1371)) (.val (.ref b1387)) (.val (.int ((p5 &&& (7 : Int32)) % (6 : Int32)))) .unset .unset .unset .unset .unset .unset .unset .unset .unset .unset .unset .unset [])) (fun t kt => ?_) ?_
 ·refine XS.iload Xh1465.here hx rfl (hb hby at_139) rfl ?_
  refine XS.bipush Xh1465.here hx rfl (hb hby at_141) ?_
  refine XS.iand Xh1465.here hx rfl (hb hby at_143) rfl ?_
  show Steps p.tables e below (T1462.setTop (fr_law m p1 p2 q3 q4 p5 144 (.val (.int ya)) (.val (.int yb)) (.val (.ref b1371)) (.val (.ref b1387)) .unset .unset .unset .unset .unset .unset .unset .unset .unset .unset .unset .unset .unset [(.int (p5 &&& (7 : Int32)))])) t
  refine XS.bipush Xh1465.here hx rfl (hb hby at_144) ?_
  refine iremM Xh1465 hx rfl (hb hby at_146) rfl (by decide) ?_
  refine XS.istore Xh1465.here hx rfl (hb hby at_147) rfl (l' := #[.val (.int p1), .val (.int p2), .val (.long q3), .second, .val (.long q4), .second, .val (.int p5), .val (.int p1), .val (.int ya), .val (.int yb), .val (.ref b1371), .val (.ref b1387), .val (.int ((p5 &&& (7 : Int32)) % (6 : Int32))), .unset, .unset, .unset, .unset, .unset, .unset, .unset, .unset, .unset, .unset, .unset, .unset]) rfl ?_
  exact kt
 show ownG p.tables e below _ (T1462.setTop (fr_law m p1 p2 q3 q4 p5 149 (.val (.int ya)) (.val (.int yb)) (.val (.ref b1371)) (.val (.ref b1387)) (.val (.int ((p5 &&& (7 : Int32)) % (6 : Int32)))) .unset .unset .unset .unset .unset .unset .unset .unset .unset .unset .unset .unset []))
 generalize hd_ix : ((p5 &&& (7 : Int32)) % (6 : Int32)) = ix
 have hix := own_six p5
 rw [hd_ix] at hix
 clear hd_ix
 refine ownBy (A := T1462.setTop (fr_law m p1 p2 q3 q4 p5 162 (.val (.int ya)) (.val (.int yb)) (.val (.ref b1371)) (.val (.ref b1387)) (.val (.int ix)) (.val (.int ((1 : Int32) + (((p5.toUInt32 >>> ((5 : Int32) &&& 31).toUInt32).toInt32) % (3 : Int32))))) (.val (.long q3)) .second .unset .unset .unset .unset .unset .unset .unset .unset .unset [])) (fun t kt => ?_) ?_
 ·refine XS.iconst Xh1465.here hx rfl (hb hby at_149) ?_
  refine XS.iload Xh1465.here hx rfl (hb hby at_150) rfl ?_
  refine XS.iconst Xh1465.here hx rfl (hb hby at_152) ?_
  show Steps p.tables e below (T1462.setTop (fr_law m p1 p2 q3 q4 p5 153 (.val (.int ya)) (.val (.int yb)) (.val (.ref b1371)) (.val (.ref b1387)) (.val (.int ix)) .unset .unset .unset .unset .unset .unset .unset .unset .unset .unset .unset .unset [(.int (5 : Int32)), (.int p5), (.int (1 : Int32))])) t
  refine XS.iushr Xh1465.here hx rfl (hb hby at_153) rfl ?_
  refine XS.iconst Xh1465.here hx rfl (hb hby at_154) ?_
  refine iremM Xh1465 hx rfl (hb hby at_155) rfl (by decide) ?_
  show Steps p.tables e below (T1462.setTop (fr_law m p1 p2 q3 q4 p5 156 (.val (.int ya)) (.val (.int yb)) (.val (.ref b1371)) (.val (.ref b1387)) (.val (.int ix)) .unset .unset .unset .unset .unset .unset .unset .unset .unset .unset .unset .unset [(.int (((p5.toUInt32 >>> ((5 : Int32) &&& 31).toUInt32).toInt32) % (3 : Int32))), (.int (1 : Int32))])) t
  refine XS.iadd Xh1465.here hx rfl (hb hby at_156) rfl ?_
  refine XS.istore Xh1465.here hx rfl (hb hby at_157) rfl (l' := #[.val (.int p1), .val (.int p2), .val (.long q3), .second, .val (.long q4), .second, .val (.int p5), .val (.int p1), .val (.int ya), .val (.int yb), .val (.ref b1371), .val (.ref b1387), .val (.int ix), .val (.int ((1 : Int32) + (((p5.toUInt32 >>> ((5 : Int32) &&& 31).toUInt32).toInt32) % (3 : Int32)))), .unset, .unset, .unset, .unset, .unset, .unset, .unset, .unset, .unset, .unset, .unset]) rfl ?_
  refine XS.lloadN Xh1465.here hx rfl (hb hby at_159) rfl ?_
  show Steps p.tables e below (T1462.setTop (fr_law m p1 p2 q3 q4 p5 160 (.val (.int ya)) (.val (.int yb)) (.val (.ref b1371)) (.val (.ref b1387)) (.val (.int ix)) (.val (.int ((1 : Int32) + (((p5.toUInt32 >>> ((5 : Int32) &&& 31).toUInt32).toInt32) % (3 : Int32))))) .unset .unset .unset .unset .unset .unset .unset .unset .unset .unset .unset [(.long q3)])) t
  refine XS.lstore Xh1465.here hx rfl (hb hby at_160) rfl (l' := #[.val (.int p1), .val (.int p2), .val (.long q3), .second, .val (.long q4), .second, .val (.int p5), .val (.int p1), .val (.int ya), .val (.int yb), .val (.ref b1371), .val (.ref b1387), .val (.int ix), .val (.int ((1 : Int32) + (((p5.toUInt32 >>> ((5 : Int32) &&& 31).toUInt32).toInt32) % (3 : Int32)))), .val (.long q3), .second, .unset, .unset, .unset, .unset, .unset, .unset, .unset, .unset, .unset]) rfl ?_
  exact kt
 show ownG p.tables e below _ (T1462.setTop (fr_law m p1 p2 q3 q4 p5 162 (.val (.int ya)) (.val (.int yb)) (.val (.ref b1371)) (.val (.ref b1387)) (.val (.int ix)) (.val (.int ((1 : Int32) + (((p5.toUInt32 >>> ((5 : Int32) &&& 31).toUInt32).toInt32) % (3 : Int32))))) (.val (.long q3)) .second .unset .unset .unset .unset .unset .unset .unset .unset .unset []))
 generalize hd_cn : ((1 : Int32) + (((p5.toUInt32 >>> ((5 : Int32) &&& 31).toUInt32).toInt32) % (3 : Int32))) = cn
 clear hd_cn
 obtain ⟨j1, seg1467⟩ : ∃ (j1 : Int64), ∀ t, Steps p.tables e below (T1462.setTop (fr_law m p1 p2 q3 q4 p5 180 (.val (.int ya)) (.val (.int yb)) (.val (.ref b1371)) (.val (.ref b1387)) (.val (.int ix)) (.val (.int cn)) (.val (.long q3)) .second (.val (.long j1)) .second .unset .unset .unset .unset .unset .unset .unset [])) t → Steps p.tables e below (T1462.setTop (fr_law m p1 p2 q3 q4 p5 162 (.val (.int ya)) (.val (.int yb)) (.val (.ref b1371)) (.val (.ref b1387)) (.val (.int ix)) (.val (.int cn)) (.val (.long q3)) .second .unset .unset .unset .unset .unset .unset .unset .unset .unset [])) t := by
  by_cases hc1468 : (p5 &&& (8 : Int32)) = (0 : Int32)
  ·skip
   refine ⟨(q3 + (1 : Int64)), fun t kt => ?_⟩
   show Steps p.tables e below (T1462.setTop (fr_law m p1 p2 q3 q4 p5 162 (.val (.int ya)) (.val (.int yb)) (.val (.ref b1371)) (.val (.ref b1387)) (.val (.int ix)) (.val (.int cn)) (.val (.long q3)) .second .unset .unset .unset .unset .unset .unset .unset .unset .unset [])) t
   refine XS.iload Xh1465.here hx rfl (hb hby at_162) rfl ?_
   refine XS.bipush Xh1465.here hx rfl (hb hby at_164) ?_
   refine XS.iand Xh1465.here hx rfl (hb hby at_166) rfl ?_
   show Steps p.tables e below (T1462.setTop (fr_law m p1 p2 q3 q4 p5 167 (.val (.int ya)) (.val (.int yb)) (.val (.ref b1371)) (.val (.ref b1387)) (.val (.int ix)) (.val (.int cn)) (.val (.long q3)) .second .unset .unset .unset .unset .unset .unset .unset .unset .unset [(.int (p5 &&& (8 : Int32)))])) t
   refine XS.ifYes Xh1465.here hx rfl (pc0 := 167) (pc' := 175) rfl (hb hby at_167) rfl ((if0 _ _).trans (teq hc1468).1) (by decide) (by decide) ?_
   refine XS.lloadN Xh1465.here hx rfl (hb hby at_175) rfl ?_
   refine XS.lconst Xh1465.here hx rfl (hb hby at_176) ?_
   show Steps p.tables e below (T1462.setTop (fr_law m p1 p2 q3 q4 p5 177 (.val (.int ya)) (.val (.int yb)) (.val (.ref b1371)) (.val (.ref b1387)) (.val (.int ix)) (.val (.int cn)) (.val (.long q3)) .second .unset .unset .unset .unset .unset .unset .unset .unset .unset [(.long (1 : Int64)), (.long q3)])) t
   refine XS.ladd Xh1465.here hx rfl (hb hby at_177) rfl ?_
   refine XS.lstore Xh1465.here hx rfl (hb hby at_178) rfl (l' := #[.val (.int p1), .val (.int p2), .val (.long q3), .second, .val (.long q4), .second, .val (.int p5), .val (.int p1), .val (.int ya), .val (.int yb), .val (.ref b1371), .val (.ref b1387), .val (.int ix), .val (.int cn), .val (.long q3), .second, .val (.long (q3 + (1 : Int64))), .second, .unset, .unset, .unset, .unset, .unset, .unset, .unset]) rfl ?_
   show Steps p.tables e below (T1462.setTop (fr_law m p1 p2 q3 q4 p5 180 (.val (.int ya)) (.val (.int yb)) (.val (.ref b1371)) (.val (.ref b1387)) (.val (.int ix)) (.val (.int cn)) (.val (.long q3)) .second (.val (.long (q3 + (1 : Int64)))) .second .unset .unset .unset .unset .unset .unset .unset [])) t
   exact kt
  ·skip
   refine ⟨q4, fun t kt => ?_⟩
   show Steps p.tables e below (T1462.setTop (fr_law m p1 p2 q3 q4 p5 162 (.val (.int ya)) (.val (.int yb)) (.val (.ref b1371)) (.val (.ref b1387)) (.val (.int ix)) (.val (.int cn)) (.val (.long q3)) .second .unset .unset .unset .unset .unset .unset .unset .unset .unset [])) t
   refine XS.iload Xh1465.here hx rfl (hb hby at_162) rfl ?_
   refine XS.bipush Xh1465.here hx rfl (hb hby at_164) ?_
   refine XS.iand Xh1465.here hx rfl (hb hby at_166) rfl ?_
   show Steps p.tables e below (T1462.setTop (fr_law m p1 p2 q3 q4 p5 167 (.val (.int ya)) (.val (.int yb)) (.val (.ref b1371)) (.val (.ref b1387)) (.val (.int ix)) (.val (.int cn)) (.val (.long q3)) .second .unset .unset .unset .unset .unset .unset .unset .unset .unset [(.int (p5 &&& (8 : Int32)))])) t
   refine XS.ifNo Xh1465.here hx rfl (hb hby at_167) rfl ((if0 _ _).trans (feq hc1468).1) ?_
   refine XS.lload Xh1465.here hx rfl (hb hby at_170) rfl ?_
   refine XS.goto Xh1465.here hx rfl (pc0 := 172) (pc' := 178) rfl (hb hby at_172) (by decide) (by decide) ?_
   show Steps p.tables e below (T1462.setTop (fr_law m p1 p2 q3 q4 p5 178 (.val (.int ya)) (.val (.int yb)) (.val (.ref b1371)) (.val (.ref b1387)) (.val (.int ix)) (.val (.int cn)) (.val (.long q3)) .second .unset .unset .unset .unset .unset .unset .unset .unset .unset [(.long q4)])) t
   refine XS.lstore Xh1465.here hx rfl (hb hby at_178) rfl (l' := #[.val (.int p1), .val (.int p2), .val (.long q3), .second, .val (.long q4), .second, .val (.int p5), .val (.int p1), .val (.int ya), .val (.int yb), .val (.ref b1371), .val (.ref b1387), .val (.int ix), .val (.int cn), .val (.long q3), .second, .val (.long q4), .second, .unset, .unset, .unset, .unset, .unset, .unset, .unset]) rfl ?_
   show Steps p.tables e below (T1462.setTop (fr_law m p1 p2 q3 q4 p5 180 (.val (.int ya)) (.val (.int yb)) (.val (.ref b1371)) (.val (.ref b1387)) (.val (.int ix)) (.val (.int cn)) (.val (.long q3)) .second (.val (.long q4)) .second .unset .unset .unset .unset .unset .unset .unset [])) t
   exact kt
 refine ownBy seg1467 ?_
 show ownG p.tables e below _ (T1462.setTop (fr_law m p1 p2 q3 q4 p5 180 (.val (.int ya)) (.val (.int yb)) (.val (.ref b1371)) (.val (.ref b1387)) (.val (.int ix)) (.val (.int cn)) (.val (.long q3)) .second (.val (.long j1)) .second .unset .unset .unset .unset .unset .unset .unset []))
 obtain ⟨j2, seg1469⟩ : ∃ (j2 : Int64), ∀ t, Steps p.tables e below (T1462.setTop (fr_law m p1 p2 q3 q4 p5 204 (.val (.int ya)) (.val (.int yb)) (.val (.ref b1371)) (.val (.ref b1387)) (.val (.int ix)) (.val (.int cn)) (.val (.long q3)) .second (.val (.long j1)) .second (.val (.long j2)) .second .unset .unset .unset .unset .unset [])) t → Steps p.tables e below (T1462.setTop (fr_law m p1 p2 q3 q4 p5 180 (.val (.int ya)) (.val (.int yb)) (.val (.ref b1371)) (.val (.ref b1387)) (.val (.int ix)) (.val (.int cn)) (.val (.long q3)) .second (.val (.long j1)) .second .unset .unset .unset .unset .unset .unset .unset [])) t := by
  by_cases hc1470 : (p5 &&& (16 : Int32)) = (0 : Int32)
  ·skip
   refine ⟨(q3 + (2 : Int64)), fun t kt => ?_⟩
   show Steps p.tables e below (T1462.setTop (fr_law m p1 p2 q3 q4 p5 180 (.val (.int ya)) (.val (.int yb)) (.val (.ref b1371)) (.val (.ref b1387)) (.val (.int ix)) (.val (.int cn)) (.val (.long q3)) .second (.val (.long j1)) .second .unset .unset .unset .unset .unset .unset .unset [])) t
   refine XS.iload Xh1465.here hx rfl (hb hby at_180) rfl ?_
   refine XS.bipush Xh1465.here hx rfl (hb hby at_182) ?_
   refine XS.iand Xh1465.here hx rfl (hb hby at_184) rfl ?_
   show Steps p.tables e below (T1462.setTop (fr_law m p1 p2 q3 q4 p5 185 (.val (.int ya)) (.val (.int yb)) (.val (.ref b1371)) (.val (.ref b1387)) (.val (.int ix)) (.val (.int cn)) (.val (.long q3)) .second (.val (.long j1)) .second .unset .unset .unset .unset .unset .unset .unset [(.int (p5 &&& (16 : Int32)))])) t
   refine XS.ifYes Xh1465.here hx rfl (pc0 := 185) (pc' := 197) rfl (hb hby at_185) rfl ((if0 _ _).trans (teq hc1470).1) (by decide) (by decide) ?_
   refine XS.lloadN Xh1465.here hx rfl (hb hby at_197) rfl ?_
   refine (Xh1465.ldc2Long hx hown (mvT hZ (Wd1 hw)) (g := (fr_law m p1 p2 q3 q4 p5 198 (.val (.int ya)) (.val (.int yb)) (.val (.ref b1371)) (.val (.ref b1387)) (.val (.int ix)) (.val (.int cn)) (.val (.long q3)) .second (.val (.long j1)) .second .unset .unset .unset .unset .unset .unset .unset [(.long q3)])) rfl (hb hby at_198)) t ?_
   show Steps p.tables e below (T1462.setTop (fr_law m p1 p2 q3 q4 p5 201 (.val (.int ya)) (.val (.int yb)) (.val (.ref b1371)) (.val (.ref b1387)) (.val (.int ix)) (.val (.int cn)) (.val (.long q3)) .second (.val (.long j1)) .second .unset .unset .unset .unset .unset .unset .unset [(.long (2 : Int64)), (.long q3)])) t
   refine XS.ladd Xh1465.here hx rfl (hb hby at_201) rfl ?_
   refine XS.lstore Xh1465.here hx rfl (hb hby at_202) rfl (l' := #[.val (.int p1), .val (.int p2), .val (.long q3), .second, .val (.long q4), .second, .val (.int p5), .val (.int p1), .val (.int ya), .val (.int yb), .val (.ref b1371), .val (.ref b1387), .val (.int ix), .val (.int cn), .val (.long q3), .second, .val (.long j1), .second, .val (.long (q3 + (2 : Int64))), .second, .unset, .unset, .unset, .unset, .unset]) rfl ?_
   show Steps p.tables e below (T1462.setTop (fr_law m p1 p2 q3 q4 p5 204 (.val (.int ya)) (.val (.int yb)) (.val (.ref b1371)) (.val (.ref b1387)) (.val (.int ix)) (.val (.int cn)) (.val (.long q3)) .second (.val (.long j1)) .second (.val (.long (q3 + (2 : Int64)))) .second .unset .unset .unset .unset .unset [])) t
   exact kt
  ·skip
   refine ⟨(q4 ^^^ (-1 : Int64)), fun t kt => ?_⟩
   show Steps p.tables e below (T1462.setTop (fr_law m p1 p2 q3 q4 p5 180 (.val (.int ya)) (.val (.int yb)) (.val (.ref b1371)) (.val (.ref b1387)) (.val (.int ix)) (.val (.int cn)) (.val (.long q3)) .second (.val (.long j1)) .second .unset .unset .unset .unset .unset .unset .unset [])) t
   refine XS.iload Xh1465.here hx rfl (hb hby at_180) rfl ?_
   refine XS.bipush Xh1465.here hx rfl (hb hby at_182) ?_
   refine XS.iand Xh1465.here hx rfl (hb hby at_184) rfl ?_
   show Steps p.tables e below (T1462.setTop (fr_law m p1 p2 q3 q4 p5 185 (.val (.int ya)) (.val (.int yb)) (.val (.ref b1371)) (.val (.ref b1387)) (.val (.int ix)) (.val (.int cn)) (.val (.long q3)) .second (.val (.long j1)) .second .unset .unset .unset .unset .unset .unset .unset [(.int (p5 &&& (16 : Int32)))])) t
   refine XS.ifNo Xh1465.here hx rfl (hb hby at_185) rfl ((if0 _ _).trans (feq hc1470).1) ?_
   refine XS.lload Xh1465.here hx rfl (hb hby at_188) rfl ?_
   refine (Xh1465.ldc2Long hx hown (mvT hZ (Wd89 hw)) (g := (fr_law m p1 p2 q3 q4 p5 190 (.val (.int ya)) (.val (.int yb)) (.val (.ref b1371)) (.val (.ref b1387)) (.val (.int ix)) (.val (.int cn)) (.val (.long q3)) .second (.val (.long j1)) .second .unset .unset .unset .unset .unset .unset .unset [(.long q4)])) rfl (hb hby at_190)) t ?_
   show Steps p.tables e below (T1462.setTop (fr_law m p1 p2 q3 q4 p5 193 (.val (.int ya)) (.val (.int yb)) (.val (.ref b1371)) (.val (.ref b1387)) (.val (.int ix)) (.val (.int cn)) (.val (.long q3)) .second (.val (.long j1)) .second .unset .unset .unset .unset .unset .unset .unset [(.long (-1 : Int64)), (.long q4)])) t
   refine XS.lxor Xh1465.here hx rfl (hb hby at_193) rfl ?_
   refine XS.goto Xh1465.here hx rfl (pc0 := 194) (pc' := 202) rfl (hb hby at_194) (by decide) (by decide) ?_
   refine XS.lstore Xh1465.here hx rfl (hb hby at_202) rfl (l' := #[.val (.int p1), .val (.int p2), .val (.long q3), .second, .val (.long q4), .second, .val (.int p5), .val (.int p1), .val (.int ya), .val (.int yb), .val (.ref b1371), .val (.ref b1387), .val (.int ix), .val (.int cn), .val (.long q3), .second, .val (.long j1), .second, .val (.long (q4 ^^^ (-1 : Int64))), .second, .unset, .unset, .unset, .unset, .unset]) rfl ?_
   show Steps p.tables e below (T1462.setTop (fr_law m p1 p2 q3 q4 p5 204 (.val (.int ya)) (.val (.int yb)) (.val (.ref b1371)) (.val (.ref b1387)) (.val (.int ix)) (.val (.int cn)) (.val (.long q3)) .second (.val (.long j1)) .second (.val (.long (q4 ^^^ (-1 : Int64)))) .second .unset .unset .unset .unset .unset [])) t
   exact kt
 refine ownBy seg1469 ?_
 show ownG p.tables e below _ (T1462.setTop (fr_law m p1 p2 q3 q4 p5 204 (.val (.int ya)) (.val (.int yb)) (.val (.ref b1371)) (.val (.ref b1387)) (.val (.int ix)) (.val (.int cn)) (.val (.long q3)) .second (.val (.long j1)) .second (.val (.long j2)) .second .unset .unset .unset .unset .unset []))
 obtain ⟨x0, x1, x2, hj1471, seg1471⟩ : ∃ (x0 : Int32) (x1 : Int32) (x2 : Int32), (¬ (x1 = x0) ∧ ¬ (x2 = x0) ∧ ¬ (x2 = x1)) ∧ ∀ t, Steps p.tables e below (T1462.setTop (fr_law m p1 p2 q3 q4 p5 244 (.val (.int ya)) (.val (.int yb)) (.val (.ref b1371)) (.val (.ref b1387)) (.val (.int ix)) (.val (.int cn)) (.val (.long q3)) .second (.val (.long j1)) .second (.val (.long j2)) .second (.val (.int x0)) (.val (.int x1)) (.val (.int x2)) .unset .unset [])) t → Steps p.tables e below (T1462.setTop (fr_law m p1 p2 q3 q4 p5 204 (.val (.int ya)) (.val (.int yb)) (.val (.ref b1371)) (.val (.ref b1387)) (.val (.int ix)) (.val (.int cn)) (.val (.long q3)) .second (.val (.long j1)) .second (.val (.long j2)) .second .unset .unset .unset .unset .unset [])) t := by
  rcases hix with rfl | rfl | rfl | rfl | rfl | rfl
  ·skip
   refine ⟨p1, ya, yb, ⟨hdist.1, hdist.2.1, hdist.2.2⟩, fun t kt => ?_⟩
   show Steps p.tables e below (T1462.setTop (fr_law m p1 p2 q3 q4 p5 204 (.val (.int ya)) (.val (.int yb)) (.val (.ref b1371)) (.val (.ref b1387)) (.val (.int (0 : Int32))) (.val (.int cn)) (.val (.long q3)) .second (.val (.long j1)) .second (.val (.long j2)) .second .unset .unset .unset .unset .unset [])) t
   refine XS.aload Xh1465.here hx rfl (hb hby at_204) rfl rfl ?_
   refine XS.aload Xh1465.here hx rfl (hb hby at_206) rfl rfl ?_
   refine XS.iload Xh1465.here hx rfl (hb hby at_208) rfl ?_
   show Steps p.tables e below (T1462.setTop (fr_law m p1 p2 q3 q4 p5 210 (.val (.int ya)) (.val (.int yb)) (.val (.ref b1371)) (.val (.ref b1387)) (.val (.int (0 : Int32))) (.val (.int cn)) (.val (.long q3)) .second (.val (.long j1)) .second (.val (.long j2)) .second .unset .unset .unset .unset .unset [(.int (0 : Int32)), (.ref b1387), (.ref b1371)])) t
   refine XS.iconst Xh1465.here hx rfl (hb hby at_210) ?_
   refine XS.imul Xh1465.here hx rfl (hb hby at_211) rfl ?_
   obtain ⟨cl1472, Ar1472, q1472, S1472, N1472, H1472, G1472⟩ := id V1463
   have hin1472 : ¬ ((0 : Int32) < 0 ∨ cl1472.slots.size ≤ ((0 : Int32)).toNatClampNeg) := inb_of S1472 ⟨by decide, by decide⟩
   have hat1472 : cl1472.slots[((0 : Int32)).toNatClampNeg]? = some (.int (0 : Int32)) := H1472.at hin1472 rfl
   refine Xh1465.iaload hx (j := (0 : Int32)) (v := (.int (0 : Int32))) (by rw [e1462]; exact Ar1472.1) (State.isArrayOf_alike hZ.alike Ar1472.2.1) Ar1472.2.2 hin1472 hat1472 (g := (fr_law m p1 p2 q3 q4 p5 212 (.val (.int ya)) (.val (.int yb)) (.val (.ref b1371)) (.val (.ref b1387)) (.val (.int (0 : Int32))) (.val (.int cn)) (.val (.long q3)) .second (.val (.long j1)) .second (.val (.long j2)) .second .unset .unset .unset .unset .unset [(.int (0 : Int32)), (.ref b1387), (.ref b1371)])) rfl rfl (hb hby at_212) t ?_
   show Steps p.tables e below (T1462.setTop (fr_law m p1 p2 q3 q4 p5 213 (.val (.int ya)) (.val (.int yb)) (.val (.ref b1371)) (.val (.ref b1387)) (.val (.int (0 : Int32))) (.val (.int cn)) (.val (.long q3)) .second (.val (.long j1)) .second (.val (.long j2)) .second .unset .unset .unset .unset .unset [(.int (0 : Int32)), (.ref b1371)])) t
   obtain ⟨cl1473, Ar1473, q1473, S1473, N1473, H1473, G1473⟩ := id f1466
   have hin1473 : ¬ ((0 : Int32) < 0 ∨ cl1473.slots.size ≤ ((0 : Int32)).toNatClampNeg) := inb_of S1473 ⟨by decide, by decide⟩
   have hat1473 : cl1473.slots[((0 : Int32)).toNatClampNeg]? = some (.int p1) := H1473.at hin1473 rfl
   refine Xh1465.iaload hx (j := (0 : Int32)) (v := (.int p1)) (by rw [e1462]; exact Ar1473.1) (State.isArrayOf_alike hZ.alike Ar1473.2.1) Ar1473.2.2 hin1473 hat1473 (g := (fr_law m p1 p2 q3 q4 p5 213 (.val (.int ya)) (.val (.int yb)) (.val (.ref b1371)) (.val (.ref b1387)) (.val (.int (0 : Int32))) (.val (.int cn)) (.val (.long q3)) .second (.val (.long j1)) .second (.val (.long j2)) .second .unset .unset .unset .unset .unset [(.int (0 : Int32)), (.ref b1371)])) rfl rfl (hb hby at_213) t ?_
   refine XS.istore Xh1465.here hx rfl (hb hby at_214) rfl (l' := #[.val (.int p1), .val (.int p2), .val (.long q3), .second, .val (.long q4), .second, .val (.int p5), .val (.int p1), .val (.int ya), .val (.int yb), .val (.ref b1371), .val (.ref b1387), .val (.int (0 : Int32)), .val (.int cn), .val (.long q3), .second, .val (.long j1), .second, .val (.long j2), .second, .val (.int p1), .unset, .unset, .unset, .unset]) rfl ?_
   refine XS.aload Xh1465.here hx rfl (hb hby at_216) rfl rfl ?_
   show Steps p.tables e below (T1462.setTop (fr_law m p1 p2 q3 q4 p5 218 (.val (.int ya)) (.val (.int yb)) (.val (.ref b1371)) (.val (.ref b1387)) (.val (.int (0 : Int32))) (.val (.int cn)) (.val (.long q3)) .second (.val (.long j1)) .second (.val (.long j2)) .second (.val (.int p1)) .unset .unset .unset .unset [(.ref b1371)])) t
   refine XS.aload Xh1465.here hx rfl (hb hby at_218) rfl rfl ?_
   refine XS.iload Xh1465.here hx rfl (hb hby at_220) rfl ?_
   refine XS.iconst Xh1465.here hx rfl (hb hby at_222) ?_
   show Steps p.tables e below (T1462.setTop (fr_law m p1 p2 q3 q4 p5 223 (.val (.int ya)) (.val (.int yb)) (.val (.ref b1371)) (.val (.ref b1387)) (.val (.int (0 : Int32))) (.val (.int cn)) (.val (.long q3)) .second (.val (.long j1)) .second (.val (.long j2)) .second (.val (.int p1)) .unset .unset .unset .unset [(.int (3 : Int32)), (.int (0 : Int32)), (.ref b1387), (.ref b1371)])) t
   refine XS.imul Xh1465.here hx rfl (hb hby at_223) rfl ?_
   refine XS.iconst Xh1465.here hx rfl (hb hby at_224) ?_
   refine XS.iadd Xh1465.here hx rfl (hb hby at_225) rfl ?_
   show Steps p.tables e below (T1462.setTop (fr_law m p1 p2 q3 q4 p5 226 (.val (.int ya)) (.val (.int yb)) (.val (.ref b1371)) (.val (.ref b1387)) (.val (.int (0 : Int32))) (.val (.int cn)) (.val (.long q3)) .second (.val (.long j1)) .second (.val (.long j2)) .second (.val (.int p1)) .unset .unset .unset .unset [(.int (1 : Int32)), (.ref b1387), (.ref b1371)])) t
   obtain ⟨cl1474, Ar1474, q1474, S1474, N1474, H1474, G1474⟩ := id V1463
   have hin1474 : ¬ ((1 : Int32) < 0 ∨ cl1474.slots.size ≤ ((1 : Int32)).toNatClampNeg) := inb_of S1474 ⟨by decide, by decide⟩
   have hat1474 : cl1474.slots[((1 : Int32)).toNatClampNeg]? = some (.int (1 : Int32)) := H1474.at hin1474 rfl
   refine Xh1465.iaload hx (j := (1 : Int32)) (v := (.int (1 : Int32))) (by rw [e1462]; exact Ar1474.1) (State.isArrayOf_alike hZ.alike Ar1474.2.1) Ar1474.2.2 hin1474 hat1474 (g := (fr_law m p1 p2 q3 q4 p5 226 (.val (.int ya)) (.val (.int yb)) (.val (.ref b1371)) (.val (.ref b1387)) (.val (.int (0 : Int32))) (.val (.int cn)) (.val (.long q3)) .second (.val (.long j1)) .second (.val (.long j2)) .second (.val (.int p1)) .unset .unset .unset .unset [(.int (1 : Int32)), (.ref b1387), (.ref b1371)])) rfl rfl (hb hby at_226) t ?_
   obtain ⟨cl1475, Ar1475, q1475, S1475, N1475, H1475, G1475⟩ := id f1466
   have hin1475 : ¬ ((1 : Int32) < 0 ∨ cl1475.slots.size ≤ ((1 : Int32)).toNatClampNeg) := inb_of S1475 ⟨by decide, by decide⟩
   have hat1475 : cl1475.slots[((1 : Int32)).toNatClampNeg]? = some (.int ya) := H1475.at hin1475 rfl
   refine Xh1465.iaload hx (j := (1 : Int32)) (v := (.int ya)) (by rw [e1462]; exact Ar1475.1) (State.isArrayOf_alike hZ.alike Ar1475.2.1) Ar1475.2.2 hin1475 hat1475 (g := (fr_law m p1 p2 q3 q4 p5 227 (.val (.int ya)) (.val (.int yb)) (.val (.ref b1371)) (.val (.ref b1387)) (.val (.int (0 : Int32))) (.val (.int cn)) (.val (.long q3)) .second (.val (.long j1)) .second (.val (.long j2)) .second (.val (.int p1)) .unset .unset .unset .unset [(.int (1 : Int32)), (.ref b1371)])) rfl rfl (hb hby at_227) t ?_
   refine XS.istore Xh1465.here hx rfl (hb hby at_228) rfl (l' := #[.val (.int p1), .val (.int p2), .val (.long q3), .second, .val (.long q4), .second, .val (.int p5), .val (.int p1), .val (.int ya), .val (.int yb), .val (.ref b1371), .val (.ref b1387), .val (.int (0 : Int32)), .val (.int cn), .val (.long q3), .second, .val (.long j1), .second, .val (.long j2), .second, .val (.int p1), .val (.int ya), .unset, .unset, .unset]) rfl ?_
   show Steps p.tables e below (T1462.setTop (fr_law m p1 p2 q3 q4 p5 230 (.val (.int ya)) (.val (.int yb)) (.val (.ref b1371)) (.val (.ref b1387)) (.val (.int (0 : Int32))) (.val (.int cn)) (.val (.long q3)) .second (.val (.long j1)) .second (.val (.long j2)) .second (.val (.int p1)) (.val (.int ya)) .unset .unset .unset [])) t
   refine XS.aload Xh1465.here hx rfl (hb hby at_230) rfl rfl ?_
   refine XS.aload Xh1465.here hx rfl (hb hby at_232) rfl rfl ?_
   refine XS.iload Xh1465.here hx rfl (hb hby at_234) rfl ?_
   show Steps p.tables e below (T1462.setTop (fr_law m p1 p2 q3 q4 p5 236 (.val (.int ya)) (.val (.int yb)) (.val (.ref b1371)) (.val (.ref b1387)) (.val (.int (0 : Int32))) (.val (.int cn)) (.val (.long q3)) .second (.val (.long j1)) .second (.val (.long j2)) .second (.val (.int p1)) (.val (.int ya)) .unset .unset .unset [(.int (0 : Int32)), (.ref b1387), (.ref b1371)])) t
   refine XS.iconst Xh1465.here hx rfl (hb hby at_236) ?_
   refine XS.imul Xh1465.here hx rfl (hb hby at_237) rfl ?_
   refine XS.iconst Xh1465.here hx rfl (hb hby at_238) ?_
   show Steps p.tables e below (T1462.setTop (fr_law m p1 p2 q3 q4 p5 239 (.val (.int ya)) (.val (.int yb)) (.val (.ref b1371)) (.val (.ref b1387)) (.val (.int (0 : Int32))) (.val (.int cn)) (.val (.long q3)) .second (.val (.long j1)) .second (.val (.long j2)) .second (.val (.int p1)) (.val (.int ya)) .unset .unset .unset [(.int (2 : Int32)), (.int (0 : Int32)), (.ref b1387), (.ref b1371)])) t
   refine XS.iadd Xh1465.here hx rfl (hb hby at_239) rfl ?_
   obtain ⟨cl1476, Ar1476, q1476, S1476, N1476, H1476, G1476⟩ := id V1463
   have hin1476 : ¬ ((2 : Int32) < 0 ∨ cl1476.slots.size ≤ ((2 : Int32)).toNatClampNeg) := inb_of S1476 ⟨by decide, by decide⟩
   have hat1476 : cl1476.slots[((2 : Int32)).toNatClampNeg]? = some (.int (2 : Int32)) := H1476.at hin1476 rfl
   refine Xh1465.iaload hx (j := (2 : Int32)) (v := (.int (2 : Int32))) (by rw [e1462]; exact Ar1476.1) (State.isArrayOf_alike hZ.alike Ar1476.2.1) Ar1476.2.2 hin1476 hat1476 (g := (fr_law m p1 p2 q3 q4 p5 240 (.val (.int ya)) (.val (.int yb)) (.val (.ref b1371)) (.val (.ref b1387)) (.val (.int (0 : Int32))) (.val (.int cn)) (.val (.long q3)) .second (.val (.long j1)) .second (.val (.long j2)) .second (.val (.int p1)) (.val (.int ya)) .unset .unset .unset [(.int (2 : Int32)), (.ref b1387), (.ref b1371)])) rfl rfl (hb hby at_240) t ?_
   obtain ⟨cl1477, Ar1477, q1477, S1477, N1477, H1477, G1477⟩ := id f1466
   have hin1477 : ¬ ((2 : Int32) < 0 ∨ cl1477.slots.size ≤ ((2 : Int32)).toNatClampNeg) := inb_of S1477 ⟨by decide, by decide⟩
   have hat1477 : cl1477.slots[((2 : Int32)).toNatClampNeg]? = some (.int yb) := H1477.at hin1477 rfl
   refine Xh1465.iaload hx (j := (2 : Int32)) (v := (.int yb)) (by rw [e1462]; exact Ar1477.1) (State.isArrayOf_alike hZ.alike Ar1477.2.1) Ar1477.2.2 hin1477 hat1477 (g := (fr_law m p1 p2 q3 q4 p5 241 (.val (.int ya)) (.val (.int yb)) (.val (.ref b1371)) (.val (.ref b1387)) (.val (.int (0 : Int32))) (.val (.int cn)) (.val (.long q3)) .second (.val (.long j1)) .second (.val (.long j2)) .second (.val (.int p1)) (.val (.int ya)) .unset .unset .unset [(.int (2 : Int32)), (.ref b1371)])) rfl rfl (hb hby at_241) t ?_
   show Steps p.tables e below (T1462.setTop (fr_law m p1 p2 q3 q4 p5 242 (.val (.int ya)) (.val (.int yb)) (.val (.ref b1371)) (.val (.ref b1387)) (.val (.int (0 : Int32))) (.val (.int cn)) (.val (.long q3)) .second (.val (.long j1)) .second (.val (.long j2)) .second (.val (.int p1)) (.val (.int ya)) .unset .unset .unset [(.int yb)])) t
   refine XS.istore Xh1465.here hx rfl (hb hby at_242) rfl (l' := #[.val (.int p1), .val (.int p2), .val (.long q3), .second, .val (.long q4), .second, .val (.int p5), .val (.int p1), .val (.int ya), .val (.int yb), .val (.ref b1371), .val (.ref b1387), .val (.int (0 : Int32)), .val (.int cn), .val (.long q3), .second, .val (.long j1), .second, .val (.long j2), .second, .val (.int p1), .val (.int ya), .val (.int yb), .unset, .unset]) rfl ?_
   show Steps p.tables e below (T1462.setTop (fr_law m p1 p2 q3 q4 p5 244 (.val (.int ya)) (.val (.int yb)) (.val (.ref b1371)) (.val (.ref b1387)) (.val (.int (0 : Int32))) (.val (.int cn)) (.val (.long q3)) .second (.val (.long j1)) .second (.val (.long j2)) .second (.val (.int p1)) (.val (.int ya)) (.val (.int yb)) .unset .unset [])) t
   exact kt
  ·skip
   refine ⟨p1, yb, ya, ⟨hdist.2.1, hdist.1, (fun q => hdist.2.2 q.symm)⟩, fun t kt => ?_⟩
   show Steps p.tables e below (T1462.setTop (fr_law m p1 p2 q3 q4 p5 204 (.val (.int ya)) (.val (.int yb)) (.val (.ref b1371)) (.val (.ref b1387)) (.val (.int (1 : Int32))) (.val (.int cn)) (.val (.long q3)) .second (.val (.long j1)) .second (.val (.long j2)) .second .unset .unset .unset .unset .unset [])) t
   refine XS.aload Xh1465.here hx rfl (hb hby at_204) rfl rfl ?_
   refine XS.aload Xh1465.here hx rfl (hb hby at_206) rfl rfl ?_
   refine XS.iload Xh1465.here hx rfl (hb hby at_208) rfl ?_
   show Steps p.tables e below (T1462.setTop (fr_law m p1 p2 q3 q4 p5 210 (.val (.int ya)) (.val (.int yb)) (.val (.ref b1371)) (.val (.ref b1387)) (.val (.int (1 : Int32))) (.val (.int cn)) (.val (.long q3)) .second (.val (.long j1)) .second (.val (.long j2)) .second .unset .unset .unset .unset .unset [(.int (1 : Int32)), (.ref b1387), (.ref b1371)])) t
   refine XS.iconst Xh1465.here hx rfl (hb hby at_210) ?_
   refine XS.imul Xh1465.here hx rfl (hb hby at_211) rfl ?_
   obtain ⟨cl1478, Ar1478, q1478, S1478, N1478, H1478, G1478⟩ := id V1463
   have hin1478 : ¬ ((3 : Int32) < 0 ∨ cl1478.slots.size ≤ ((3 : Int32)).toNatClampNeg) := inb_of S1478 ⟨by decide, by decide⟩
   have hat1478 : cl1478.slots[((3 : Int32)).toNatClampNeg]? = some (.int (0 : Int32)) := H1478.at hin1478 rfl
   refine Xh1465.iaload hx (j := (3 : Int32)) (v := (.int (0 : Int32))) (by rw [e1462]; exact Ar1478.1) (State.isArrayOf_alike hZ.alike Ar1478.2.1) Ar1478.2.2 hin1478 hat1478 (g := (fr_law m p1 p2 q3 q4 p5 212 (.val (.int ya)) (.val (.int yb)) (.val (.ref b1371)) (.val (.ref b1387)) (.val (.int (1 : Int32))) (.val (.int cn)) (.val (.long q3)) .second (.val (.long j1)) .second (.val (.long j2)) .second .unset .unset .unset .unset .unset [(.int (3 : Int32)), (.ref b1387), (.ref b1371)])) rfl rfl (hb hby at_212) t ?_
   show Steps p.tables e below (T1462.setTop (fr_law m p1 p2 q3 q4 p5 213 (.val (.int ya)) (.val (.int yb)) (.val (.ref b1371)) (.val (.ref b1387)) (.val (.int (1 : Int32))) (.val (.int cn)) (.val (.long q3)) .second (.val (.long j1)) .second (.val (.long j2)) .second .unset .unset .unset .unset .unset [(.int (0 : Int32)), (.ref b1371)])) t
   obtain ⟨cl1479, Ar1479, q1479, S1479, N1479, H1479, G1479⟩ := id f1466
   have hin1479 : ¬ ((0 : Int32) < 0 ∨ cl1479.slots.size ≤ ((0 : Int32)).toNatClampNeg) := inb_of S1479 ⟨by decide, by decide⟩
   have hat1479 : cl1479.slots[((0 : Int32)).toNatClampNeg]? = some (.int p1) := H1479.at hin1479 rfl
   refine Xh1465.iaload hx (j := (0 : Int32)) (v := (.int p1)) (by rw [e1462]; exact Ar1479.1) (State.isArrayOf_alike hZ.alike Ar1479.2.1) Ar1479.2.2 hin1479 hat1479 (g := (fr_law m p1 p2 q3 q4 p5 213 (.val (.int ya)) (.val (.int yb)) (.val (.ref b1371)) (.val (.ref b1387)) (.val (.int (1 : Int32))) (.val (.int cn)) (.val (.long q3)) .second (.val (.long j1)) .second (.val (.long j2)) .second .unset .unset .unset .unset .unset [(.int (0 : Int32)), (.ref b1371)])) rfl rfl (hb hby at_213) t ?_
   refine XS.istore Xh1465.here hx rfl (hb hby at_214) rfl (l' := #[.val (.int p1), .val (.int p2), .val (.long q3), .second, .val (.long q4), .second, .val (.int p5), .val (.int p1), .val (.int ya), .val (.int yb), .val (.ref b1371), .val (.ref b1387), .val (.int (1 : Int32)), .val (.int cn), .val (.long q3), .second, .val (.long j1), .second, .val (.long j2), .second, .val (.int p1), .unset, .unset, .unset, .unset]) rfl ?_
   refine XS.aload Xh1465.here hx rfl (hb hby at_216) rfl rfl ?_
   show Steps p.tables e below (T1462.setTop (fr_law m p1 p2 q3 q4 p5 218 (.val (.int ya)) (.val (.int yb)) (.val (.ref b1371)) (.val (.ref b1387)) (.val (.int (1 : Int32))) (.val (.int cn)) (.val (.long q3)) .second (.val (.long j1)) .second (.val (.long j2)) .second (.val (.int p1)) .unset .unset .unset .unset [(.ref b1371)])) t
   refine XS.aload Xh1465.here hx rfl (hb hby at_218) rfl rfl ?_
   refine XS.iload Xh1465.here hx rfl (hb hby at_220) rfl ?_
   refine XS.iconst Xh1465.here hx rfl (hb hby at_222) ?_
   show Steps p.tables e below (T1462.setTop (fr_law m p1 p2 q3 q4 p5 223 (.val (.int ya)) (.val (.int yb)) (.val (.ref b1371)) (.val (.ref b1387)) (.val (.int (1 : Int32))) (.val (.int cn)) (.val (.long q3)) .second (.val (.long j1)) .second (.val (.long j2)) .second (.val (.int p1)) .unset .unset .unset .unset [(.int (3 : Int32)), (.int (1 : Int32)), (.ref b1387), (.ref b1371)])) t
   refine XS.imul Xh1465.here hx rfl (hb hby at_223) rfl ?_
   refine XS.iconst Xh1465.here hx rfl (hb hby at_224) ?_
   refine XS.iadd Xh1465.here hx rfl (hb hby at_225) rfl ?_
   show Steps p.tables e below (T1462.setTop (fr_law m p1 p2 q3 q4 p5 226 (.val (.int ya)) (.val (.int yb)) (.val (.ref b1371)) (.val (.ref b1387)) (.val (.int (1 : Int32))) (.val (.int cn)) (.val (.long q3)) .second (.val (.long j1)) .second (.val (.long j2)) .second (.val (.int p1)) .unset .unset .unset .unset [(.int (4 : Int32)), (.ref b1387), (.ref b1371)])) t
   obtain ⟨cl1480, Ar1480, q1480, S1480, N1480, H1480, G1480⟩ := id V1463
   have hin1480 : ¬ ((4 : Int32) < 0 ∨ cl1480.slots.size ≤ ((4 : Int32)).toNatClampNeg) := inb_of S1480 ⟨by decide, by decide⟩
   have hat1480 : cl1480.slots[((4 : Int32)).toNatClampNeg]? = some (.int (2 : Int32)) := H1480.at hin1480 rfl
   refine Xh1465.iaload hx (j := (4 : Int32)) (v := (.int (2 : Int32))) (by rw [e1462]; exact Ar1480.1) (State.isArrayOf_alike hZ.alike Ar1480.2.1) Ar1480.2.2 hin1480 hat1480 (g := (fr_law m p1 p2 q3 q4 p5 226 (.val (.int ya)) (.val (.int yb)) (.val (.ref b1371)) (.val (.ref b1387)) (.val (.int (1 : Int32))) (.val (.int cn)) (.val (.long q3)) .second (.val (.long j1)) .second (.val (.long j2)) .second (.val (.int p1)) .unset .unset .unset .unset [(.int (4 : Int32)), (.ref b1387), (.ref b1371)])) rfl rfl (hb hby at_226) t ?_
   obtain ⟨cl1481, Ar1481, q1481, S1481, N1481, H1481, G1481⟩ := id f1466
   have hin1481 : ¬ ((2 : Int32) < 0 ∨ cl1481.slots.size ≤ ((2 : Int32)).toNatClampNeg) := inb_of S1481 ⟨by decide, by decide⟩
   have hat1481 : cl1481.slots[((2 : Int32)).toNatClampNeg]? = some (.int yb) := H1481.at hin1481 rfl
   refine Xh1465.iaload hx (j := (2 : Int32)) (v := (.int yb)) (by rw [e1462]; exact Ar1481.1) (State.isArrayOf_alike hZ.alike Ar1481.2.1) Ar1481.2.2 hin1481 hat1481 (g := (fr_law m p1 p2 q3 q4 p5 227 (.val (.int ya)) (.val (.int yb)) (.val (.ref b1371)) (.val (.ref b1387)) (.val (.int (1 : Int32))) (.val (.int cn)) (.val (.long q3)) .second (.val (.long j1)) .second (.val (.long j2)) .second (.val (.int p1)) .unset .unset .unset .unset [(.int (2 : Int32)), (.ref b1371)])) rfl rfl (hb hby at_227) t ?_
   refine XS.istore Xh1465.here hx rfl (hb hby at_228) rfl (l' := #[.val (.int p1), .val (.int p2), .val (.long q3), .second, .val (.long q4), .second, .val (.int p5), .val (.int p1), .val (.int ya), .val (.int yb), .val (.ref b1371), .val (.ref b1387), .val (.int (1 : Int32)), .val (.int cn), .val (.long q3), .second, .val (.long j1), .second, .val (.long j2), .second, .val (.int p1), .val (.int yb), .unset, .unset, .unset]) rfl ?_
   show Steps p.tables e below (T1462.setTop (fr_law m p1 p2 q3 q4 p5 230 (.val (.int ya)) (.val (.int yb)) (.val (.ref b1371)) (.val (.ref b1387)) (.val (.int (1 : Int32))) (.val (.int cn)) (.val (.long q3)) .second (.val (.long j1)) .second (.val (.long j2)) .second (.val (.int p1)) (.val (.int yb)) .unset .unset .unset [])) t
   refine XS.aload Xh1465.here hx rfl (hb hby at_230) rfl rfl ?_
   refine XS.aload Xh1465.here hx rfl (hb hby at_232) rfl rfl ?_
   refine XS.iload Xh1465.here hx rfl (hb hby at_234) rfl ?_
   show Steps p.tables e below (T1462.setTop (fr_law m p1 p2 q3 q4 p5 236 (.val (.int ya)) (.val (.int yb)) (.val (.ref b1371)) (.val (.ref b1387)) (.val (.int (1 : Int32))) (.val (.int cn)) (.val (.long q3)) .second (.val (.long j1)) .second (.val (.long j2)) .second (.val (.int p1)) (.val (.int yb)) .unset .unset .unset [(.int (1 : Int32)), (.ref b1387), (.ref b1371)])) t
   refine XS.iconst Xh1465.here hx rfl (hb hby at_236) ?_
   refine XS.imul Xh1465.here hx rfl (hb hby at_237) rfl ?_
   refine XS.iconst Xh1465.here hx rfl (hb hby at_238) ?_
   show Steps p.tables e below (T1462.setTop (fr_law m p1 p2 q3 q4 p5 239 (.val (.int ya)) (.val (.int yb)) (.val (.ref b1371)) (.val (.ref b1387)) (.val (.int (1 : Int32))) (.val (.int cn)) (.val (.long q3)) .second (.val (.long j1)) .second (.val (.long j2)) .second (.val (.int p1)) (.val (.int yb)) .unset .unset .unset [(.int (2 : Int32)), (.int (3 : Int32)), (.ref b1387), (.ref b1371)])) t
   refine XS.iadd Xh1465.here hx rfl (hb hby at_239) rfl ?_
   obtain ⟨cl1482, Ar1482, q1482, S1482, N1482, H1482, G1482⟩ := id V1463
   have hin1482 : ¬ ((5 : Int32) < 0 ∨ cl1482.slots.size ≤ ((5 : Int32)).toNatClampNeg) := inb_of S1482 ⟨by decide, by decide⟩
   have hat1482 : cl1482.slots[((5 : Int32)).toNatClampNeg]? = some (.int (1 : Int32)) := H1482.at hin1482 rfl
   refine Xh1465.iaload hx (j := (5 : Int32)) (v := (.int (1 : Int32))) (by rw [e1462]; exact Ar1482.1) (State.isArrayOf_alike hZ.alike Ar1482.2.1) Ar1482.2.2 hin1482 hat1482 (g := (fr_law m p1 p2 q3 q4 p5 240 (.val (.int ya)) (.val (.int yb)) (.val (.ref b1371)) (.val (.ref b1387)) (.val (.int (1 : Int32))) (.val (.int cn)) (.val (.long q3)) .second (.val (.long j1)) .second (.val (.long j2)) .second (.val (.int p1)) (.val (.int yb)) .unset .unset .unset [(.int (5 : Int32)), (.ref b1387), (.ref b1371)])) rfl rfl (hb hby at_240) t ?_
   obtain ⟨cl1483, Ar1483, q1483, S1483, N1483, H1483, G1483⟩ := id f1466
   have hin1483 : ¬ ((1 : Int32) < 0 ∨ cl1483.slots.size ≤ ((1 : Int32)).toNatClampNeg) := inb_of S1483 ⟨by decide, by decide⟩
   have hat1483 : cl1483.slots[((1 : Int32)).toNatClampNeg]? = some (.int ya) := H1483.at hin1483 rfl
   refine Xh1465.iaload hx (j := (1 : Int32)) (v := (.int ya)) (by rw [e1462]; exact Ar1483.1) (State.isArrayOf_alike hZ.alike Ar1483.2.1) Ar1483.2.2 hin1483 hat1483 (g := (fr_law m p1 p2 q3 q4 p5 241 (.val (.int ya)) (.val (.int yb)) (.val (.ref b1371)) (.val (.ref b1387)) (.val (.int (1 : Int32))) (.val (.int cn)) (.val (.long q3)) .second (.val (.long j1)) .second (.val (.long j2)) .second (.val (.int p1)) (.val (.int yb)) .unset .unset .unset [(.int (1 : Int32)), (.ref b1371)])) rfl rfl (hb hby at_241) t ?_
   show Steps p.tables e below (T1462.setTop (fr_law m p1 p2 q3 q4 p5 242 (.val (.int ya)) (.val (.int yb)) (.val (.ref b1371)) (.val (.ref b1387)) (.val (.int (1 : Int32))) (.val (.int cn)) (.val (.long q3)) .second (.val (.long j1)) .second (.val (.long j2)) .second (.val (.int p1)) (.val (.int yb)) .unset .unset .unset [(.int ya)])) t
   refine XS.istore Xh1465.here hx rfl (hb hby at_242) rfl (l' := #[.val (.int p1), .val (.int p2), .val (.long q3), .second, .val (.long q4), .second, .val (.int p5), .val (.int p1), .val (.int ya), .val (.int yb), .val (.ref b1371), .val (.ref b1387), .val (.int (1 : Int32)), .val (.int cn), .val (.long q3), .second, .val (.long j1), .second, .val (.long j2), .second, .val (.int p1), .val (.int yb), .val (.int ya), .unset, .unset]) rfl ?_
   show Steps p.tables e below (T1462.setTop (fr_law m p1 p2 q3 q4 p5 244 (.val (.int ya)) (.val (.int yb)) (.val (.ref b1371)) (.val (.ref b1387)) (.val (.int (1 : Int32))) (.val (.int cn)) (.val (.long q3)) .second (.val (.long j1)) .second (.val (.long j2)) .second (.val (.int p1)) (.val (.int yb)) (.val (.int ya)) .unset .unset [])) t
   exact kt
  ·skip
   refine ⟨ya, p1, yb, ⟨(fun q => hdist.1 q.symm), hdist.2.2, hdist.2.1⟩, fun t kt => ?_⟩
   show Steps p.tables e below (T1462.setTop (fr_law m p1 p2 q3 q4 p5 204 (.val (.int ya)) (.val (.int yb)) (.val (.ref b1371)) (.val (.ref b1387)) (.val (.int (2 : Int32))) (.val (.int cn)) (.val (.long q3)) .second (.val (.long j1)) .second (.val (.long j2)) .second .unset .unset .unset .unset .unset [])) t
   refine XS.aload Xh1465.here hx rfl (hb hby at_204) rfl rfl ?_
   refine XS.aload Xh1465.here hx rfl (hb hby at_206) rfl rfl ?_
   refine XS.iload Xh1465.here hx rfl (hb hby at_208) rfl ?_
   show Steps p.tables e below (T1462.setTop (fr_law m p1 p2 q3 q4 p5 210 (.val (.int ya)) (.val (.int yb)) (.val (.ref b1371)) (.val (.ref b1387)) (.val (.int (2 : Int32))) (.val (.int cn)) (.val (.long q3)) .second (.val (.long j1)) .second (.val (.long j2)) .second .unset .unset .unset .unset .unset [(.int (2 : Int32)), (.ref b1387), (.ref b1371)])) t
   refine XS.iconst Xh1465.here hx rfl (hb hby at_210) ?_
   refine XS.imul Xh1465.here hx rfl (hb hby at_211) rfl ?_
   obtain ⟨cl1484, Ar1484, q1484, S1484, N1484, H1484, G1484⟩ := id V1463
   have hin1484 : ¬ ((6 : Int32) < 0 ∨ cl1484.slots.size ≤ ((6 : Int32)).toNatClampNeg) := inb_of S1484 ⟨by decide, by decide⟩
   have hat1484 : cl1484.slots[((6 : Int32)).toNatClampNeg]? = some (.int (1 : Int32)) := H1484.at hin1484 rfl
   refine Xh1465.iaload hx (j := (6 : Int32)) (v := (.int (1 : Int32))) (by rw [e1462]; exact Ar1484.1) (State.isArrayOf_alike hZ.alike Ar1484.2.1) Ar1484.2.2 hin1484 hat1484 (g := (fr_law m p1 p2 q3 q4 p5 212 (.val (.int ya)) (.val (.int yb)) (.val (.ref b1371)) (.val (.ref b1387)) (.val (.int (2 : Int32))) (.val (.int cn)) (.val (.long q3)) .second (.val (.long j1)) .second (.val (.long j2)) .second .unset .unset .unset .unset .unset [(.int (6 : Int32)), (.ref b1387), (.ref b1371)])) rfl rfl (hb hby at_212) t ?_
   show Steps p.tables e below (T1462.setTop (fr_law m p1 p2 q3 q4 p5 213 (.val (.int ya)) (.val (.int yb)) (.val (.ref b1371)) (.val (.ref b1387)) (.val (.int (2 : Int32))) (.val (.int cn)) (.val (.long q3)) .second (.val (.long j1)) .second (.val (.long j2)) .second .unset .unset .unset .unset .unset [(.int (1 : Int32)), (.ref b1371)])) t
   obtain ⟨cl1485, Ar1485, q1485, S1485, N1485, H1485, G1485⟩ := id f1466
   have hin1485 : ¬ ((1 : Int32) < 0 ∨ cl1485.slots.size ≤ ((1 : Int32)).toNatClampNeg) := inb_of S1485 ⟨by decide, by decide⟩
   have hat1485 : cl1485.slots[((1 : Int32)).toNatClampNeg]? = some (.int ya) := H1485.at hin1485 rfl
   refine Xh1465.iaload hx (j := (1 : Int32)) (v := (.int ya)) (by rw [e1462]; exact Ar1485.1) (State.isArrayOf_alike hZ.alike Ar1485.2.1) Ar1485.2.2 hin1485 hat1485 (g := (fr_law m p1 p2 q3 q4 p5 213 (.val (.int ya)) (.val (.int yb)) (.val (.ref b1371)) (.val (.ref b1387)) (.val (.int (2 : Int32))) (.val (.int cn)) (.val (.long q3)) .second (.val (.long j1)) .second (.val (.long j2)) .second .unset .unset .unset .unset .unset [(.int (1 : Int32)), (.ref b1371)])) rfl rfl (hb hby at_213) t ?_
   refine XS.istore Xh1465.here hx rfl (hb hby at_214) rfl (l' := #[.val (.int p1), .val (.int p2), .val (.long q3), .second, .val (.long q4), .second, .val (.int p5), .val (.int p1), .val (.int ya), .val (.int yb), .val (.ref b1371), .val (.ref b1387), .val (.int (2 : Int32)), .val (.int cn), .val (.long q3), .second, .val (.long j1), .second, .val (.long j2), .second, .val (.int ya), .unset, .unset, .unset, .unset]) rfl ?_
   refine XS.aload Xh1465.here hx rfl (hb hby at_216) rfl rfl ?_
   show Steps p.tables e below (T1462.setTop (fr_law m p1 p2 q3 q4 p5 218 (.val (.int ya)) (.val (.int yb)) (.val (.ref b1371)) (.val (.ref b1387)) (.val (.int (2 : Int32))) (.val (.int cn)) (.val (.long q3)) .second (.val (.long j1)) .second (.val (.long j2)) .second (.val (.int ya)) .unset .unset .unset .unset [(.ref b1371)])) t
   refine XS.aload Xh1465.here hx rfl (hb hby at_218) rfl rfl ?_
   refine XS.iload Xh1465.here hx rfl (hb hby at_220) rfl ?_
   refine XS.iconst Xh1465.here hx rfl (hb hby at_222) ?_
   show Steps p.tables e below (T1462.setTop (fr_law m p1 p2 q3 q4 p5 223 (.val (.int ya)) (.val (.int yb)) (.val (.ref b1371)) (.val (.ref b1387)) (.val (.int (2 : Int32))) (.val (.int cn)) (.val (.long q3)) .second (.val (.long j1)) .second (.val (.long j2)) .second (.val (.int ya)) .unset .unset .unset .unset [(.int (3 : Int32)), (.int (2 : Int32)), (.ref b1387), (.ref b1371)])) t
   refine XS.imul Xh1465.here hx rfl (hb hby at_223) rfl ?_
   refine XS.iconst Xh1465.here hx rfl (hb hby at_224) ?_
   refine XS.iadd Xh1465.here hx rfl (hb hby at_225) rfl ?_
   show Steps p.tables e below (T1462.setTop (fr_law m p1 p2 q3 q4 p5 226 (.val (.int ya)) (.val (.int yb)) (.val (.ref b1371)) (.val (.ref b1387)) (.val (.int (2 : Int32))) (.val (.int cn)) (.val (.long q3)) .second (.val (.long j1)) .second (.val (.long j2)) .second (.val (.int ya)) .unset .unset .unset .unset [(.int (7 : Int32)), (.ref b1387), (.ref b1371)])) t
   obtain ⟨cl1486, Ar1486, q1486, S1486, N1486, H1486, G1486⟩ := id V1463
   have hin1486 : ¬ ((7 : Int32) < 0 ∨ cl1486.slots.size ≤ ((7 : Int32)).toNatClampNeg) := inb_of S1486 ⟨by decide, by decide⟩
   have hat1486 : cl1486.slots[((7 : Int32)).toNatClampNeg]? = some (.int (0 : Int32)) := H1486.at hin1486 rfl
   refine Xh1465.iaload hx (j := (7 : Int32)) (v := (.int (0 : Int32))) (by rw [e1462]; exact Ar1486.1) (State.isArrayOf_alike hZ.alike Ar1486.2.1) Ar1486.2.2 hin1486 hat1486 (g := (fr_law m p1 p2 q3 q4 p5 226 (.val (.int ya)) (.val (.int yb)) (.val (.ref b1371)) (.val (.ref b1387)) (.val (.int (2 : Int32))) (.val (.int cn)) (.val (.long q3)) .second (.val (.long j1)) .second (.val (.long j2)) .second (.val (.int ya)) .unset .unset .unset .unset [(.int (7 : Int32)), (.ref b1387), (.ref b1371)])) rfl rfl (hb hby at_226) t ?_
   obtain ⟨cl1487, Ar1487, q1487, S1487, N1487, H1487, G1487⟩ := id f1466
   have hin1487 : ¬ ((0 : Int32) < 0 ∨ cl1487.slots.size ≤ ((0 : Int32)).toNatClampNeg) := inb_of S1487 ⟨by decide, by decide⟩
   have hat1487 : cl1487.slots[((0 : Int32)).toNatClampNeg]? = some (.int p1) := H1487.at hin1487 rfl
   refine Xh1465.iaload hx (j := (0 : Int32)) (v := (.int p1)) (by rw [e1462]; exact Ar1487.1) (State.isArrayOf_alike hZ.alike Ar1487.2.1) Ar1487.2.2 hin1487 hat1487 (g := (fr_law m p1 p2 q3 q4 p5 227 (.val (.int ya)) (.val (.int yb)) (.val (.ref b1371)) (.val (.ref b1387)) (.val (.int (2 : Int32))) (.val (.int cn)) (.val (.long q3)) .second (.val (.long j1)) .second (.val (.long j2)) .second (.val (.int ya)) .unset .unset .unset .unset [(.int (0 : Int32)), (.ref b1371)])) rfl rfl (hb hby at_227) t ?_
   refine XS.istore Xh1465.here hx rfl (hb hby at_228) rfl (l' := #[.val (.int p1), .val (.int p2), .val (.long q3), .second, .val (.long q4), .second, .val (.int p5), .val (.int p1), .val (.int ya), .val (.int yb), .val (.ref b1371), .val (.ref b1387), .val (.int (2 : Int32)), .val (.int cn), .val (.long q3), .second, .val (.long j1), .second, .val (.long j2), .second, .val (.int ya), .val (.int p1), .unset, .unset, .unset]) rfl ?_
   show Steps p.tables e below (T1462.setTop (fr_law m p1 p2 q3 q4 p5 230 (.val (.int ya)) (.val (.int yb)) (.val (.ref b1371)) (.val (.ref b1387)) (.val (.int (2 : Int32))) (.val (.int cn)) (.val (.long q3)) .second (.val (.long j1)) .second (.val (.long j2)) .second (.val (.int ya)) (.val (.int p1)) .unset .unset .unset [])) t
   refine XS.aload Xh1465.here hx rfl (hb hby at_230) rfl rfl ?_
   refine XS.aload Xh1465.here hx rfl (hb hby at_232) rfl rfl ?_
   refine XS.iload Xh1465.here hx rfl (hb hby at_234) rfl ?_
   show Steps p.tables e below (T1462.setTop (fr_law m p1 p2 q3 q4 p5 236 (.val (.int ya)) (.val (.int yb)) (.val (.ref b1371)) (.val (.ref b1387)) (.val (.int (2 : Int32))) (.val (.int cn)) (.val (.long q3)) .second (.val (.long j1)) .second (.val (.long j2)) .second (.val (.int ya)) (.val (.int p1)) .unset .unset .unset [(.int (2 : Int32)), (.ref b1387), (.ref b1371)])) t
   refine XS.iconst Xh1465.here hx rfl (hb hby at_236) ?_
   refine XS.imul Xh1465.here hx rfl (hb hby at_237) rfl ?_
   refine XS.iconst Xh1465.here hx rfl (hb hby at_238) ?_
   show Steps p.tables e below (T1462.setTop (fr_law m p1 p2 q3 q4 p5 239 (.val (.int ya)) (.val (.int yb)) (.val (.ref b1371)) (.val (.ref b1387)) (.val (.int (2 : Int32))) (.val (.int cn)) (.val (.long q3)) .second (.val (.long j1)) .second (.val (.long j2)) .second (.val (.int ya)) (.val (.int p1)) .unset .unset .unset [(.int (2 : Int32)), (.int (6 : Int32)), (.ref b1387), (.ref b1371)])) t
   refine XS.iadd Xh1465.here hx rfl (hb hby at_239) rfl ?_
   obtain ⟨cl1488, Ar1488, q1488, S1488, N1488, H1488, G1488⟩ := id V1463
   have hin1488 : ¬ ((8 : Int32) < 0 ∨ cl1488.slots.size ≤ ((8 : Int32)).toNatClampNeg) := inb_of S1488 ⟨by decide, by decide⟩
   have hat1488 : cl1488.slots[((8 : Int32)).toNatClampNeg]? = some (.int (2 : Int32)) := H1488.at hin1488 rfl
   refine Xh1465.iaload hx (j := (8 : Int32)) (v := (.int (2 : Int32))) (by rw [e1462]; exact Ar1488.1) (State.isArrayOf_alike hZ.alike Ar1488.2.1) Ar1488.2.2 hin1488 hat1488 (g := (fr_law m p1 p2 q3 q4 p5 240 (.val (.int ya)) (.val (.int yb)) (.val (.ref b1371)) (.val (.ref b1387)) (.val (.int (2 : Int32))) (.val (.int cn)) (.val (.long q3)) .second (.val (.long j1)) .second (.val (.long j2)) .second (.val (.int ya)) (.val (.int p1)) .unset .unset .unset [(.int (8 : Int32)), (.ref b1387), (.ref b1371)])) rfl rfl (hb hby at_240) t ?_
   obtain ⟨cl1489, Ar1489, q1489, S1489, N1489, H1489, G1489⟩ := id f1466
   have hin1489 : ¬ ((2 : Int32) < 0 ∨ cl1489.slots.size ≤ ((2 : Int32)).toNatClampNeg) := inb_of S1489 ⟨by decide, by decide⟩
   have hat1489 : cl1489.slots[((2 : Int32)).toNatClampNeg]? = some (.int yb) := H1489.at hin1489 rfl
   refine Xh1465.iaload hx (j := (2 : Int32)) (v := (.int yb)) (by rw [e1462]; exact Ar1489.1) (State.isArrayOf_alike hZ.alike Ar1489.2.1) Ar1489.2.2 hin1489 hat1489 (g := (fr_law m p1 p2 q3 q4 p5 241 (.val (.int ya)) (.val (.int yb)) (.val (.ref b1371)) (.val (.ref b1387)) (.val (.int (2 : Int32))) (.val (.int cn)) (.val (.long q3)) .second (.val (.long j1)) .second (.val (.long j2)) .second (.val (.int ya)) (.val (.int p1)) .unset .unset .unset [(.int (2 : Int32)), (.ref b1371)])) rfl rfl (hb hby at_241) t ?_
   show Steps p.tables e below (T1462.setTop (fr_law m p1 p2 q3 q4 p5 242 (.val (.int ya)) (.val (.int yb)) (.val (.ref b1371)) (.val (.ref b1387)) (.val (.int (2 : Int32))) (.val (.int cn)) (.val (.long q3)) .second (.val (.long j1)) .second (.val (.long j2)) .second (.val (.int ya)) (.val (.int p1)) .unset .unset .unset [(.int yb)])) t
   refine XS.istore Xh1465.here hx rfl (hb hby at_242) rfl (l' := #[.val (.int p1), .val (.int p2), .val (.long q3), .second, .val (.long q4), .second, .val (.int p5), .val (.int p1), .val (.int ya), .val (.int yb), .val (.ref b1371), .val (.ref b1387), .val (.int (2 : Int32)), .val (.int cn), .val (.long q3), .second, .val (.long j1), .second, .val (.long j2), .second, .val (.int ya), .val (.int p1), .val (.int yb), .unset, .unset]) rfl ?_
   show Steps p.tables e below (T1462.setTop (fr_law m p1 p2 q3 q4 p5 244 (.val (.int ya)) (.val (.int yb)) (.val (.ref b1371)) (.val (.ref b1387)) (.val (.int (2 : Int32))) (.val (.int cn)) (.val (.long q3)) .second (.val (.long j1)) .second (.val (.long j2)) .second (.val (.int ya)) (.val (.int p1)) (.val (.int yb)) .unset .unset [])) t
   exact kt
  ·skip
   refine ⟨ya, yb, p1, ⟨hdist.2.2, (fun q => hdist.1 q.symm), (fun q => hdist.2.1 q.symm)⟩, fun t kt => ?_⟩
   show Steps p.tables e below (T1462.setTop (fr_law m p1 p2 q3 q4 p5 204 (.val (.int ya)) (.val (.int yb)) (.val (.ref b1371)) (.val (.ref b1387)) (.val (.int (3 : Int32))) (.val (.int cn)) (.val (.long q3)) .second (.val (.long j1)) .second (.val (.long j2)) .second .unset .unset .unset .unset .unset [])) t
   refine XS.aload Xh1465.here hx rfl (hb hby at_204) rfl rfl ?_
   refine XS.aload Xh1465.here hx rfl (hb hby at_206) rfl rfl ?_
   refine XS.iload Xh1465.here hx rfl (hb hby at_208) rfl ?_
   show Steps p.tables e below (T1462.setTop (fr_law m p1 p2 q3 q4 p5 210 (.val (.int ya)) (.val (.int yb)) (.val (.ref b1371)) (.val (.ref b1387)) (.val (.int (3 : Int32))) (.val (.int cn)) (.val (.long q3)) .second (.val (.long j1)) .second (.val (.long j2)) .second .unset .unset .unset .unset .unset [(.int (3 : Int32)), (.ref b1387), (.ref b1371)])) t
   refine XS.iconst Xh1465.here hx rfl (hb hby at_210) ?_
   refine XS.imul Xh1465.here hx rfl (hb hby at_211) rfl ?_
   obtain ⟨cl1490, Ar1490, q1490, S1490, N1490, H1490, G1490⟩ := id V1463
   have hin1490 : ¬ ((9 : Int32) < 0 ∨ cl1490.slots.size ≤ ((9 : Int32)).toNatClampNeg) := inb_of S1490 ⟨by decide, by decide⟩
   have hat1490 : cl1490.slots[((9 : Int32)).toNatClampNeg]? = some (.int (1 : Int32)) := H1490.at hin1490 rfl
   refine Xh1465.iaload hx (j := (9 : Int32)) (v := (.int (1 : Int32))) (by rw [e1462]; exact Ar1490.1) (State.isArrayOf_alike hZ.alike Ar1490.2.1) Ar1490.2.2 hin1490 hat1490 (g := (fr_law m p1 p2 q3 q4 p5 212 (.val (.int ya)) (.val (.int yb)) (.val (.ref b1371)) (.val (.ref b1387)) (.val (.int (3 : Int32))) (.val (.int cn)) (.val (.long q3)) .second (.val (.long j1)) .second (.val (.long j2)) .second .unset .unset .unset .unset .unset [(.int (9 : Int32)), (.ref b1387), (.ref b1371)])) rfl rfl (hb hby at_212) t ?_
   show Steps p.tables e below (T1462.setTop (fr_law m p1 p2 q3 q4 p5 213 (.val (.int ya)) (.val (.int yb)) (.val (.ref b1371)) (.val (.ref b1387)) (.val (.int (3 : Int32))) (.val (.int cn)) (.val (.long q3)) .second (.val (.long j1)) .second (.val (.long j2)) .second .unset .unset .unset .unset .unset [(.int (1 : Int32)), (.ref b1371)])) t
   obtain ⟨cl1491, Ar1491, q1491, S1491, N1491, H1491, G1491⟩ := id f1466
   have hin1491 : ¬ ((1 : Int32) < 0 ∨ cl1491.slots.size ≤ ((1 : Int32)).toNatClampNeg) := inb_of S1491 ⟨by decide, by decide⟩
   have hat1491 : cl1491.slots[((1 : Int32)).toNatClampNeg]? = some (.int ya) := H1491.at hin1491 rfl
   refine Xh1465.iaload hx (j := (1 : Int32)) (v := (.int ya)) (by rw [e1462]; exact Ar1491.1) (State.isArrayOf_alike hZ.alike Ar1491.2.1) Ar1491.2.2 hin1491 hat1491 (g := (fr_law m p1 p2 q3 q4 p5 213 (.val (.int ya)) (.val (.int yb)) (.val (.ref b1371)) (.val (.ref b1387)) (.val (.int (3 : Int32))) (.val (.int cn)) (.val (.long q3)) .second (.val (.long j1)) .second (.val (.long j2)) .second .unset .unset .unset .unset .unset [(.int (1 : Int32)), (.ref b1371)])) rfl rfl (hb hby at_213) t ?_
   refine XS.istore Xh1465.here hx rfl (hb hby at_214) rfl (l' := #[.val (.int p1), .val (.int p2), .val (.long q3), .second, .val (.long q4), .second, .val (.int p5), .val (.int p1), .val (.int ya), .val (.int yb), .val (.ref b1371), .val (.ref b1387), .val (.int (3 : Int32)), .val (.int cn), .val (.long q3), .second, .val (.long j1), .second, .val (.long j2), .second, .val (.int ya), .unset, .unset, .unset, .unset]) rfl ?_
   refine XS.aload Xh1465.here hx rfl (hb hby at_216) rfl rfl ?_
   show Steps p.tables e below (T1462.setTop (fr_law m p1 p2 q3 q4 p5 218 (.val (.int ya)) (.val (.int yb)) (.val (.ref b1371)) (.val (.ref b1387)) (.val (.int (3 : Int32))) (.val (.int cn)) (.val (.long q3)) .second (.val (.long j1)) .second (.val (.long j2)) .second (.val (.int ya)) .unset .unset .unset .unset [(.ref b1371)])) t
   refine XS.aload Xh1465.here hx rfl (hb hby at_218) rfl rfl ?_
   refine XS.iload Xh1465.here hx rfl (hb hby at_220) rfl ?_
   refine XS.iconst Xh1465.here hx rfl (hb hby at_222) ?_
   show Steps p.tables e below (T1462.setTop (fr_law m p1 p2 q3 q4 p5 223 (.val (.int ya)) (.val (.int yb)) (.val (.ref b1371)) (.val (.ref b1387)) (.val (.int (3 : Int32))) (.val (.int cn)) (.val (.long q3)) .second (.val (.long j1)) .second (.val (.long j2)) .second (.val (.int ya)) .unset .unset .unset .unset [(.int (3 : Int32)), (.int (3 : Int32)), (.ref b1387), (.ref b1371)])) t
   refine XS.imul Xh1465.here hx rfl (hb hby at_223) rfl ?_
   refine XS.iconst Xh1465.here hx rfl (hb hby at_224) ?_
   refine XS.iadd Xh1465.here hx rfl (hb hby at_225) rfl ?_
   show Steps p.tables e below (T1462.setTop (fr_law m p1 p2 q3 q4 p5 226 (.val (.int ya)) (.val (.int yb)) (.val (.ref b1371)) (.val (.ref b1387)) (.val (.int (3 : Int32))) (.val (.int cn)) (.val (.long q3)) .second (.val (.long j1)) .second (.val (.long j2)) .second (.val (.int ya)) .unset .unset .unset .unset [(.int (10 : Int32)), (.ref b1387), (.ref b1371)])) t
   obtain ⟨cl1492, Ar1492, q1492, S1492, N1492, H1492, G1492⟩ := id V1463
   have hin1492 : ¬ ((10 : Int32) < 0 ∨ cl1492.slots.size ≤ ((10 : Int32)).toNatClampNeg) := inb_of S1492 ⟨by decide, by decide⟩
   have hat1492 : cl1492.slots[((10 : Int32)).toNatClampNeg]? = some (.int (2 : Int32)) := H1492.at hin1492 rfl
   refine Xh1465.iaload hx (j := (10 : Int32)) (v := (.int (2 : Int32))) (by rw [e1462]; exact Ar1492.1) (State.isArrayOf_alike hZ.alike Ar1492.2.1) Ar1492.2.2 hin1492 hat1492 (g := (fr_law m p1 p2 q3 q4 p5 226 (.val (.int ya)) (.val (.int yb)) (.val (.ref b1371)) (.val (.ref b1387)) (.val (.int (3 : Int32))) (.val (.int cn)) (.val (.long q3)) .second (.val (.long j1)) .second (.val (.long j2)) .second (.val (.int ya)) .unset .unset .unset .unset [(.int (10 : Int32)), (.ref b1387), (.ref b1371)])) rfl rfl (hb hby at_226) t ?_
   obtain ⟨cl1493, Ar1493, q1493, S1493, N1493, H1493, G1493⟩ := id f1466
   have hin1493 : ¬ ((2 : Int32) < 0 ∨ cl1493.slots.size ≤ ((2 : Int32)).toNatClampNeg) := inb_of S1493 ⟨by decide, by decide⟩
   have hat1493 : cl1493.slots[((2 : Int32)).toNatClampNeg]? = some (.int yb) := H1493.at hin1493 rfl
   refine Xh1465.iaload hx (j := (2 : Int32)) (v := (.int yb)) (by rw [e1462]; exact Ar1493.1) (State.isArrayOf_alike hZ.alike Ar1493.2.1) Ar1493.2.2 hin1493 hat1493 (g := (fr_law m p1 p2 q3 q4 p5 227 (.val (.int ya)) (.val (.int yb)) (.val (.ref b1371)) (.val (.ref b1387)) (.val (.int (3 : Int32))) (.val (.int cn)) (.val (.long q3)) .second (.val (.long j1)) .second (.val (.long j2)) .second (.val (.int ya)) .unset .unset .unset .unset [(.int (2 : Int32)), (.ref b1371)])) rfl rfl (hb hby at_227) t ?_
   refine XS.istore Xh1465.here hx rfl (hb hby at_228) rfl (l' := #[.val (.int p1), .val (.int p2), .val (.long q3), .second, .val (.long q4), .second, .val (.int p5), .val (.int p1), .val (.int ya), .val (.int yb), .val (.ref b1371), .val (.ref b1387), .val (.int (3 : Int32)), .val (.int cn), .val (.long q3), .second, .val (.long j1), .second, .val (.long j2), .second, .val (.int ya), .val (.int yb), .unset, .unset, .unset]) rfl ?_
   show Steps p.tables e below (T1462.setTop (fr_law m p1 p2 q3 q4 p5 230 (.val (.int ya)) (.val (.int yb)) (.val (.ref b1371)) (.val (.ref b1387)) (.val (.int (3 : Int32))) (.val (.int cn)) (.val (.long q3)) .second (.val (.long j1)) .second (.val (.long j2)) .second (.val (.int ya)) (.val (.int yb)) .unset .unset .unset [])) t
   refine XS.aload Xh1465.here hx rfl (hb hby at_230) rfl rfl ?_
   refine XS.aload Xh1465.here hx rfl (hb hby at_232) rfl rfl ?_
   refine XS.iload Xh1465.here hx rfl (hb hby at_234) rfl ?_
   show Steps p.tables e below (T1462.setTop (fr_law m p1 p2 q3 q4 p5 236 (.val (.int ya)) (.val (.int yb)) (.val (.ref b1371)) (.val (.ref b1387)) (.val (.int (3 : Int32))) (.val (.int cn)) (.val (.long q3)) .second (.val (.long j1)) .second (.val (.long j2)) .second (.val (.int ya)) (.val (.int yb)) .unset .unset .unset [(.int (3 : Int32)), (.ref b1387), (.ref b1371)])) t
   refine XS.iconst Xh1465.here hx rfl (hb hby at_236) ?_
   refine XS.imul Xh1465.here hx rfl (hb hby at_237) rfl ?_
   refine XS.iconst Xh1465.here hx rfl (hb hby at_238) ?_
   show Steps p.tables e below (T1462.setTop (fr_law m p1 p2 q3 q4 p5 239 (.val (.int ya)) (.val (.int yb)) (.val (.ref b1371)) (.val (.ref b1387)) (.val (.int (3 : Int32))) (.val (.int cn)) (.val (.long q3)) .second (.val (.long j1)) .second (.val (.long j2)) .second (.val (.int ya)) (.val (.int yb)) .unset .unset .unset [(.int (2 : Int32)), (.int (9 : Int32)), (.ref b1387), (.ref b1371)])) t
   refine XS.iadd Xh1465.here hx rfl (hb hby at_239) rfl ?_
   obtain ⟨cl1494, Ar1494, q1494, S1494, N1494, H1494, G1494⟩ := id V1463
   have hin1494 : ¬ ((11 : Int32) < 0 ∨ cl1494.slots.size ≤ ((11 : Int32)).toNatClampNeg) := inb_of S1494 ⟨by decide, by decide⟩
   have hat1494 : cl1494.slots[((11 : Int32)).toNatClampNeg]? = some (.int (0 : Int32)) := H1494.at hin1494 rfl
   refine Xh1465.iaload hx (j := (11 : Int32)) (v := (.int (0 : Int32))) (by rw [e1462]; exact Ar1494.1) (State.isArrayOf_alike hZ.alike Ar1494.2.1) Ar1494.2.2 hin1494 hat1494 (g := (fr_law m p1 p2 q3 q4 p5 240 (.val (.int ya)) (.val (.int yb)) (.val (.ref b1371)) (.val (.ref b1387)) (.val (.int (3 : Int32))) (.val (.int cn)) (.val (.long q3)) .second (.val (.long j1)) .second (.val (.long j2)) .second (.val (.int ya)) (.val (.int yb)) .unset .unset .unset [(.int (11 : Int32)), (.ref b1387), (.ref b1371)])) rfl rfl (hb hby at_240) t ?_
   obtain ⟨cl1495, Ar1495, q1495, S1495, N1495, H1495, G1495⟩ := id f1466
   have hin1495 : ¬ ((0 : Int32) < 0 ∨ cl1495.slots.size ≤ ((0 : Int32)).toNatClampNeg) := inb_of S1495 ⟨by decide, by decide⟩
   have hat1495 : cl1495.slots[((0 : Int32)).toNatClampNeg]? = some (.int p1) := H1495.at hin1495 rfl
   refine Xh1465.iaload hx (j := (0 : Int32)) (v := (.int p1)) (by rw [e1462]; exact Ar1495.1) (State.isArrayOf_alike hZ.alike Ar1495.2.1) Ar1495.2.2 hin1495 hat1495 (g := (fr_law m p1 p2 q3 q4 p5 241 (.val (.int ya)) (.val (.int yb)) (.val (.ref b1371)) (.val (.ref b1387)) (.val (.int (3 : Int32))) (.val (.int cn)) (.val (.long q3)) .second (.val (.long j1)) .second (.val (.long j2)) .second (.val (.int ya)) (.val (.int yb)) .unset .unset .unset [(.int (0 : Int32)), (.ref b1371)])) rfl rfl (hb hby at_241) t ?_
   show Steps p.tables e below (T1462.setTop (fr_law m p1 p2 q3 q4 p5 242 (.val (.int ya)) (.val (.int yb)) (.val (.ref b1371)) (.val (.ref b1387)) (.val (.int (3 : Int32))) (.val (.int cn)) (.val (.long q3)) .second (.val (.long j1)) .second (.val (.long j2)) .second (.val (.int ya)) (.val (.int yb)) .unset .unset .unset [(.int p1)])) t
   refine XS.istore Xh1465.here hx rfl (hb hby at_242) rfl (l' := #[.val (.int p1), .val (.int p2), .val (.long q3), .second, .val (.long q4), .second, .val (.int p5), .val (.int p1), .val (.int ya), .val (.int yb), .val (.ref b1371), .val (.ref b1387), .val (.int (3 : Int32)), .val (.int cn), .val (.long q3), .second, .val (.long j1), .second, .val (.long j2), .second, .val (.int ya), .val (.int yb), .val (.int p1), .unset, .unset]) rfl ?_
   show Steps p.tables e below (T1462.setTop (fr_law m p1 p2 q3 q4 p5 244 (.val (.int ya)) (.val (.int yb)) (.val (.ref b1371)) (.val (.ref b1387)) (.val (.int (3 : Int32))) (.val (.int cn)) (.val (.long q3)) .second (.val (.long j1)) .second (.val (.long j2)) .second (.val (.int ya)) (.val (.int yb)) (.val (.int p1)) .unset .unset [])) t
   exact kt
  ·skip
   refine ⟨yb, p1, ya, ⟨(fun q => hdist.2.1 q.symm), (fun q => hdist.2.2 q.symm), hdist.1⟩, fun t kt => ?_⟩
   show Steps p.tables e below (T1462.setTop (fr_law m p1 p2 q3 q4 p5 204 (.val (.int ya)) (.val (.int yb)) (.val (.ref b1371)) (.val (.ref b1387)) (.val (.int (4 : Int32))) (.val (.int cn)) (.val (.long q3)) .second (.val (.long j1)) .second (.val (.long j2)) .second .unset .unset .unset .unset .unset [])) t
   refine XS.aload Xh1465.here hx rfl (hb hby at_204) rfl rfl ?_
   refine XS.aload Xh1465.here hx rfl (hb hby at_206) rfl rfl ?_
   refine XS.iload Xh1465.here hx rfl (hb hby at_208) rfl ?_
   show Steps p.tables e below (T1462.setTop (fr_law m p1 p2 q3 q4 p5 210 (.val (.int ya)) (.val (.int yb)) (.val (.ref b1371)) (.val (.ref b1387)) (.val (.int (4 : Int32))) (.val (.int cn)) (.val (.long q3)) .second (.val (.long j1)) .second (.val (.long j2)) .second .unset .unset .unset .unset .unset [(.int (4 : Int32)), (.ref b1387), (.ref b1371)])) t
   refine XS.iconst Xh1465.here hx rfl (hb hby at_210) ?_
   refine XS.imul Xh1465.here hx rfl (hb hby at_211) rfl ?_
   obtain ⟨cl1496, Ar1496, q1496, S1496, N1496, H1496, G1496⟩ := id V1463
   have hin1496 : ¬ ((12 : Int32) < 0 ∨ cl1496.slots.size ≤ ((12 : Int32)).toNatClampNeg) := inb_of S1496 ⟨by decide, by decide⟩
   have hat1496 : cl1496.slots[((12 : Int32)).toNatClampNeg]? = some (.int (2 : Int32)) := H1496.at hin1496 rfl
   refine Xh1465.iaload hx (j := (12 : Int32)) (v := (.int (2 : Int32))) (by rw [e1462]; exact Ar1496.1) (State.isArrayOf_alike hZ.alike Ar1496.2.1) Ar1496.2.2 hin1496 hat1496 (g := (fr_law m p1 p2 q3 q4 p5 212 (.val (.int ya)) (.val (.int yb)) (.val (.ref b1371)) (.val (.ref b1387)) (.val (.int (4 : Int32))) (.val (.int cn)) (.val (.long q3)) .second (.val (.long j1)) .second (.val (.long j2)) .second .unset .unset .unset .unset .unset [(.int (12 : Int32)), (.ref b1387), (.ref b1371)])) rfl rfl (hb hby at_212) t ?_
   show Steps p.tables e below (T1462.setTop (fr_law m p1 p2 q3 q4 p5 213 (.val (.int ya)) (.val (.int yb)) (.val (.ref b1371)) (.val (.ref b1387)) (.val (.int (4 : Int32))) (.val (.int cn)) (.val (.long q3)) .second (.val (.long j1)) .second (.val (.long j2)) .second .unset .unset .unset .unset .unset [(.int (2 : Int32)), (.ref b1371)])) t
   obtain ⟨cl1497, Ar1497, q1497, S1497, N1497, H1497, G1497⟩ := id f1466
   have hin1497 : ¬ ((2 : Int32) < 0 ∨ cl1497.slots.size ≤ ((2 : Int32)).toNatClampNeg) := inb_of S1497 ⟨by decide, by decide⟩
   have hat1497 : cl1497.slots[((2 : Int32)).toNatClampNeg]? = some (.int yb) := H1497.at hin1497 rfl
   refine Xh1465.iaload hx (j := (2 : Int32)) (v := (.int yb)) (by rw [e1462]; exact Ar1497.1) (State.isArrayOf_alike hZ.alike Ar1497.2.1) Ar1497.2.2 hin1497 hat1497 (g := (fr_law m p1 p2 q3 q4 p5 213 (.val (.int ya)) (.val (.int yb)) (.val (.ref b1371)) (.val (.ref b1387)) (.val (.int (4 : Int32))) (.val (.int cn)) (.val (.long q3)) .second (.val (.long j1)) .second (.val (.long j2)) .second .unset .unset .unset .unset .unset [(.int (2 : Int32)), (.ref b1371)])) rfl rfl (hb hby at_213) t ?_
   refine XS.istore Xh1465.here hx rfl (hb hby at_214) rfl (l' := #[.val (.int p1), .val (.int p2), .val (.long q3), .second, .val (.long q4), .second, .val (.int p5), .val (.int p1), .val (.int ya), .val (.int yb), .val (.ref b1371), .val (.ref b1387), .val (.int (4 : Int32)), .val (.int cn), .val (.long q3), .second, .val (.long j1), .second, .val (.long j2), .second, .val (.int yb), .unset, .unset, .unset, .unset]) rfl ?_
   refine XS.aload Xh1465.here hx rfl (hb hby at_216) rfl rfl ?_
   show Steps p.tables e below (T1462.setTop (fr_law m p1 p2 q3 q4 p5 218 (.val (.int ya)) (.val (.int yb)) (.val (.ref b1371)) (.val (.ref b1387)) (.val (.int (4 : Int32))) (.val (.int cn)) (.val (.long q3)) .second (.val (.long j1)) .second (.val (.long j2)) .second (.val (.int yb)) .unset .unset .unset .unset [(.ref b1371)])) t
   refine XS.aload Xh1465.here hx rfl (hb hby at_218) rfl rfl ?_
   refine XS.iload Xh1465.here hx rfl (hb hby at_220) rfl ?_
   refine XS.iconst Xh1465.here hx rfl (hb hby at_222) ?_
   show Steps p.tables e below (T1462.setTop (fr_law m p1 p2 q3 q4 p5 223 (.val (.int ya)) (.val (.int yb)) (.val (.ref b1371)) (.val (.ref b1387)) (.val (.int (4 : Int32))) (.val (.int cn)) (.val (.long q3)) .second (.val (.long j1)) .second (.val (.long j2)) .second (.val (.int yb)) .unset .unset .unset .unset [(.int (3 : Int32)), (.int (4 : Int32)), (.ref b1387), (.ref b1371)])) t
   refine XS.imul Xh1465.here hx rfl (hb hby at_223) rfl ?_
   refine XS.iconst Xh1465.here hx rfl (hb hby at_224) ?_
   refine XS.iadd Xh1465.here hx rfl (hb hby at_225) rfl ?_
   show Steps p.tables e below (T1462.setTop (fr_law m p1 p2 q3 q4 p5 226 (.val (.int ya)) (.val (.int yb)) (.val (.ref b1371)) (.val (.ref b1387)) (.val (.int (4 : Int32))) (.val (.int cn)) (.val (.long q3)) .second (.val (.long j1)) .second (.val (.long j2)) .second (.val (.int yb)) .unset .unset .unset .unset [(.int (13 : Int32)), (.ref b1387), (.ref b1371)])) t
   obtain ⟨cl1498, Ar1498, q1498, S1498, N1498, H1498, G1498⟩ := id V1463
   have hin1498 : ¬ ((13 : Int32) < 0 ∨ cl1498.slots.size ≤ ((13 : Int32)).toNatClampNeg) := inb_of S1498 ⟨by decide, by decide⟩
   have hat1498 : cl1498.slots[((13 : Int32)).toNatClampNeg]? = some (.int (0 : Int32)) := H1498.at hin1498 rfl
   refine Xh1465.iaload hx (j := (13 : Int32)) (v := (.int (0 : Int32))) (by rw [e1462]; exact Ar1498.1) (State.isArrayOf_alike hZ.alike Ar1498.2.1) Ar1498.2.2 hin1498 hat1498 (g := (fr_law m p1 p2 q3 q4 p5 226 (.val (.int ya)) (.val (.int yb)) (.val (.ref b1371)) (.val (.ref b1387)) (.val (.int (4 : Int32))) (.val (.int cn)) (.val (.long q3)) .second (.val (.long j1)) .second (.val (.long j2)) .second (.val (.int yb)) .unset .unset .unset .unset [(.int (13 : Int32)), (.ref b1387), (.ref b1371)])) rfl rfl (hb hby at_226) t ?_
   obtain ⟨cl1499, Ar1499, q1499, S1499, N1499, H1499, G1499⟩ := id f1466
   have hin1499 : ¬ ((0 : Int32) < 0 ∨ cl1499.slots.size ≤ ((0 : Int32)).toNatClampNeg) := inb_of S1499 ⟨by decide, by decide⟩
   have hat1499 : cl1499.slots[((0 : Int32)).toNatClampNeg]? = some (.int p1) := H1499.at hin1499 rfl
   refine Xh1465.iaload hx (j := (0 : Int32)) (v := (.int p1)) (by rw [e1462]; exact Ar1499.1) (State.isArrayOf_alike hZ.alike Ar1499.2.1) Ar1499.2.2 hin1499 hat1499 (g := (fr_law m p1 p2 q3 q4 p5 227 (.val (.int ya)) (.val (.int yb)) (.val (.ref b1371)) (.val (.ref b1387)) (.val (.int (4 : Int32))) (.val (.int cn)) (.val (.long q3)) .second (.val (.long j1)) .second (.val (.long j2)) .second (.val (.int yb)) .unset .unset .unset .unset [(.int (0 : Int32)), (.ref b1371)])) rfl rfl (hb hby at_227) t ?_
   refine XS.istore Xh1465.here hx rfl (hb hby at_228) rfl (l' := #[.val (.int p1), .val (.int p2), .val (.long q3), .second, .val (.long q4), .second, .val (.int p5), .val (.int p1), .val (.int ya), .val (.int yb), .val (.ref b1371), .val (.ref b1387), .val (.int (4 : Int32)), .val (.int cn), .val (.long q3), .second, .val (.long j1), .second, .val (.long j2), .second, .val (.int yb), .val (.int p1), .unset, .unset, .unset]) rfl ?_
   show Steps p.tables e below (T1462.setTop (fr_law m p1 p2 q3 q4 p5 230 (.val (.int ya)) (.val (.int yb)) (.val (.ref b1371)) (.val (.ref b1387)) (.val (.int (4 : Int32))) (.val (.int cn)) (.val (.long q3)) .second (.val (.long j1)) .second (.val (.long j2)) .second (.val (.int yb)) (.val (.int p1)) .unset .unset .unset [])) t
   refine XS.aload Xh1465.here hx rfl (hb hby at_230) rfl rfl ?_
   refine XS.aload Xh1465.here hx rfl (hb hby at_232) rfl rfl ?_
   refine XS.iload Xh1465.here hx rfl (hb hby at_234) rfl ?_
   show Steps p.tables e below (T1462.setTop (fr_law m p1 p2 q3 q4 p5 236 (.val (.int ya)) (.val (.int yb)) (.val (.ref b1371)) (.val (.ref b1387)) (.val (.int (4 : Int32))) (.val (.int cn)) (.val (.long q3)) .second (.val (.long j1)) .second (.val (.long j2)) .second (.val (.int yb)) (.val (.int p1)) .unset .unset .unset [(.int (4 : Int32)), (.ref b1387), (.ref b1371)])) t
   refine XS.iconst Xh1465.here hx rfl (hb hby at_236) ?_
   refine XS.imul Xh1465.here hx rfl (hb hby at_237) rfl ?_
   refine XS.iconst Xh1465.here hx rfl (hb hby at_238) ?_
   show Steps p.tables e below (T1462.setTop (fr_law m p1 p2 q3 q4 p5 239 (.val (.int ya)) (.val (.int yb)) (.val (.ref b1371)) (.val (.ref b1387)) (.val (.int (4 : Int32))) (.val (.int cn)) (.val (.long q3)) .second (.val (.long j1)) .second (.val (.long j2)) .second (.val (.int yb)) (.val (.int p1)) .unset .unset .unset [(.int (2 : Int32)), (.int (12 : Int32)), (.ref b1387), (.ref b1371)])) t
   refine XS.iadd Xh1465.here hx rfl (hb hby at_239) rfl ?_
   obtain ⟨cl1500, Ar1500, q1500, S1500, N1500, H1500, G1500⟩ := id V1463
   have hin1500 : ¬ ((14 : Int32) < 0 ∨ cl1500.slots.size ≤ ((14 : Int32)).toNatClampNeg) := inb_of S1500 ⟨by decide, by decide⟩
   have hat1500 : cl1500.slots[((14 : Int32)).toNatClampNeg]? = some (.int (1 : Int32)) := H1500.at hin1500 rfl
   refine Xh1465.iaload hx (j := (14 : Int32)) (v := (.int (1 : Int32))) (by rw [e1462]; exact Ar1500.1) (State.isArrayOf_alike hZ.alike Ar1500.2.1) Ar1500.2.2 hin1500 hat1500 (g := (fr_law m p1 p2 q3 q4 p5 240 (.val (.int ya)) (.val (.int yb)) (.val (.ref b1371)) (.val (.ref b1387)) (.val (.int (4 : Int32))) (.val (.int cn)) (.val (.long q3)) .second (.val (.long j1)) .second (.val (.long j2)) .second (.val (.int yb)) (.val (.int p1)) .unset .unset .unset [(.int (14 : Int32)), (.ref b1387), (.ref b1371)])) rfl rfl (hb hby at_240) t ?_
   obtain ⟨cl1501, Ar1501, q1501, S1501, N1501, H1501, G1501⟩ := id f1466
   have hin1501 : ¬ ((1 : Int32) < 0 ∨ cl1501.slots.size ≤ ((1 : Int32)).toNatClampNeg) := inb_of S1501 ⟨by decide, by decide⟩
   have hat1501 : cl1501.slots[((1 : Int32)).toNatClampNeg]? = some (.int ya) := H1501.at hin1501 rfl
   refine Xh1465.iaload hx (j := (1 : Int32)) (v := (.int ya)) (by rw [e1462]; exact Ar1501.1) (State.isArrayOf_alike hZ.alike Ar1501.2.1) Ar1501.2.2 hin1501 hat1501 (g := (fr_law m p1 p2 q3 q4 p5 241 (.val (.int ya)) (.val (.int yb)) (.val (.ref b1371)) (.val (.ref b1387)) (.val (.int (4 : Int32))) (.val (.int cn)) (.val (.long q3)) .second (.val (.long j1)) .second (.val (.long j2)) .second (.val (.int yb)) (.val (.int p1)) .unset .unset .unset [(.int (1 : Int32)), (.ref b1371)])) rfl rfl (hb hby at_241) t ?_
   show Steps p.tables e below (T1462.setTop (fr_law m p1 p2 q3 q4 p5 242 (.val (.int ya)) (.val (.int yb)) (.val (.ref b1371)) (.val (.ref b1387)) (.val (.int (4 : Int32))) (.val (.int cn)) (.val (.long q3)) .second (.val (.long j1)) .second (.val (.long j2)) .second (.val (.int yb)) (.val (.int p1)) .unset .unset .unset [(.int ya)])) t
   refine XS.istore Xh1465.here hx rfl (hb hby at_242) rfl (l' := #[.val (.int p1), .val (.int p2), .val (.long q3), .second, .val (.long q4), .second, .val (.int p5), .val (.int p1), .val (.int ya), .val (.int yb), .val (.ref b1371), .val (.ref b1387), .val (.int (4 : Int32)), .val (.int cn), .val (.long q3), .second, .val (.long j1), .second, .val (.long j2), .second, .val (.int yb), .val (.int p1), .val (.int ya), .unset, .unset]) rfl ?_
   show Steps p.tables e below (T1462.setTop (fr_law m p1 p2 q3 q4 p5 244 (.val (.int ya)) (.val (.int yb)) (.val (.ref b1371)) (.val (.ref b1387)) (.val (.int (4 : Int32))) (.val (.int cn)) (.val (.long q3)) .second (.val (.long j1)) .second (.val (.long j2)) .second (.val (.int yb)) (.val (.int p1)) (.val (.int ya)) .unset .unset [])) t
   exact kt
  ·skip
   refine ⟨yb, ya, p1, ⟨(fun q => hdist.2.2 q.symm), (fun q => hdist.2.1 q.symm), (fun q => hdist.1 q.symm)⟩, fun t kt => ?_⟩
   show Steps p.tables e below (T1462.setTop (fr_law m p1 p2 q3 q4 p5 204 (.val (.int ya)) (.val (.int yb)) (.val (.ref b1371)) (.val (.ref b1387)) (.val (.int (5 : Int32))) (.val (.int cn)) (.val (.long q3)) .second (.val (.long j1)) .second (.val (.long j2)) .second .unset .unset .unset .unset .unset [])) t
   refine XS.aload Xh1465.here hx rfl (hb hby at_204) rfl rfl ?_
   refine XS.aload Xh1465.here hx rfl (hb hby at_206) rfl rfl ?_
   refine XS.iload Xh1465.here hx rfl (hb hby at_208) rfl ?_
   show Steps p.tables e below (T1462.setTop (fr_law m p1 p2 q3 q4 p5 210 (.val (.int ya)) (.val (.int yb)) (.val (.ref b1371)) (.val (.ref b1387)) (.val (.int (5 : Int32))) (.val (.int cn)) (.val (.long q3)) .second (.val (.long j1)) .second (.val (.long j2)) .second .unset .unset .unset .unset .unset [(.int (5 : Int32)), (.ref b1387), (.ref b1371)])) t
   refine XS.iconst Xh1465.here hx rfl (hb hby at_210) ?_
   refine XS.imul Xh1465.here hx rfl (hb hby at_211) rfl ?_
   obtain ⟨cl1502, Ar1502, q1502, S1502, N1502, H1502, G1502⟩ := id V1463
   have hin1502 : ¬ ((15 : Int32) < 0 ∨ cl1502.slots.size ≤ ((15 : Int32)).toNatClampNeg) := inb_of S1502 ⟨by decide, by decide⟩
   have hat1502 : cl1502.slots[((15 : Int32)).toNatClampNeg]? = some (.int (2 : Int32)) := H1502.at hin1502 rfl
   refine Xh1465.iaload hx (j := (15 : Int32)) (v := (.int (2 : Int32))) (by rw [e1462]; exact Ar1502.1) (State.isArrayOf_alike hZ.alike Ar1502.2.1) Ar1502.2.2 hin1502 hat1502 (g := (fr_law m p1 p2 q3 q4 p5 212 (.val (.int ya)) (.val (.int yb)) (.val (.ref b1371)) (.val (.ref b1387)) (.val (.int (5 : Int32))) (.val (.int cn)) (.val (.long q3)) .second (.val (.long j1)) .second (.val (.long j2)) .second .unset .unset .unset .unset .unset [(.int (15 : Int32)), (.ref b1387), (.ref b1371)])) rfl rfl (hb hby at_212) t ?_
   show Steps p.tables e below (T1462.setTop (fr_law m p1 p2 q3 q4 p5 213 (.val (.int ya)) (.val (.int yb)) (.val (.ref b1371)) (.val (.ref b1387)) (.val (.int (5 : Int32))) (.val (.int cn)) (.val (.long q3)) .second (.val (.long j1)) .second (.val (.long j2)) .second .unset .unset .unset .unset .unset [(.int (2 : Int32)), (.ref b1371)])) t
   obtain ⟨cl1503, Ar1503, q1503, S1503, N1503, H1503, G1503⟩ := id f1466
   have hin1503 : ¬ ((2 : Int32) < 0 ∨ cl1503.slots.size ≤ ((2 : Int32)).toNatClampNeg) := inb_of S1503 ⟨by decide, by decide⟩
   have hat1503 : cl1503.slots[((2 : Int32)).toNatClampNeg]? = some (.int yb) := H1503.at hin1503 rfl
   refine Xh1465.iaload hx (j := (2 : Int32)) (v := (.int yb)) (by rw [e1462]; exact Ar1503.1) (State.isArrayOf_alike hZ.alike Ar1503.2.1) Ar1503.2.2 hin1503 hat1503 (g := (fr_law m p1 p2 q3 q4 p5 213 (.val (.int ya)) (.val (.int yb)) (.val (.ref b1371)) (.val (.ref b1387)) (.val (.int (5 : Int32))) (.val (.int cn)) (.val (.long q3)) .second (.val (.long j1)) .second (.val (.long j2)) .second .unset .unset .unset .unset .unset [(.int (2 : Int32)), (.ref b1371)])) rfl rfl (hb hby at_213) t ?_
   refine XS.istore Xh1465.here hx rfl (hb hby at_214) rfl (l' := #[.val (.int p1), .val (.int p2), .val (.long q3), .second, .val (.long q4), .second, .val (.int p5), .val (.int p1), .val (.int ya), .val (.int yb), .val (.ref b1371), .val (.ref b1387), .val (.int (5 : Int32)), .val (.int cn), .val (.long q3), .second, .val (.long j1), .second, .val (.long j2), .second, .val (.int yb), .unset, .unset, .unset, .unset]) rfl ?_
   refine XS.aload Xh1465.here hx rfl (hb hby at_216) rfl rfl ?_
   show Steps p.tables e below (T1462.setTop (fr_law m p1 p2 q3 q4 p5 218 (.val (.int ya)) (.val (.int yb)) (.val (.ref b1371)) (.val (.ref b1387)) (.val (.int (5 : Int32))) (.val (.int cn)) (.val (.long q3)) .second (.val (.long j1)) .second (.val (.long j2)) .second (.val (.int yb)) .unset .unset .unset .unset [(.ref b1371)])) t
   refine XS.aload Xh1465.here hx rfl (hb hby at_218) rfl rfl ?_
   refine XS.iload Xh1465.here hx rfl (hb hby at_220) rfl ?_
   refine XS.iconst Xh1465.here hx rfl (hb hby at_222) ?_
   show Steps p.tables e below (T1462.setTop (fr_law m p1 p2 q3 q4 p5 223 (.val (.int ya)) (.val (.int yb)) (.val (.ref b1371)) (.val (.ref b1387)) (.val (.int (5 : Int32))) (.val (.int cn)) (.val (.long q3)) .second (.val (.long j1)) .second (.val (.long j2)) .second (.val (.int yb)) .unset .unset .unset .unset [(.int (3 : Int32)), (.int (5 : Int32)), (.ref b1387), (.ref b1371)])) t
   refine XS.imul Xh1465.here hx rfl (hb hby at_223) rfl ?_
   refine XS.iconst Xh1465.here hx rfl (hb hby at_224) ?_
   refine XS.iadd Xh1465.here hx rfl (hb hby at_225) rfl ?_
   show Steps p.tables e below (T1462.setTop (fr_law m p1 p2 q3 q4 p5 226 (.val (.int ya)) (.val (.int yb)) (.val (.ref b1371)) (.val (.ref b1387)) (.val (.int (5 : Int32))) (.val (.int cn)) (.val (.long q3)) .second (.val (.long j1)) .second (.val (.long j2)) .second (.val (.int yb)) .unset .unset .unset .unset [(.int (16 : Int32)), (.ref b1387), (.ref b1371)])) t
   obtain ⟨cl1504, Ar1504, q1504, S1504, N1504, H1504, G1504⟩ := id V1463
   have hin1504 : ¬ ((16 : Int32) < 0 ∨ cl1504.slots.size ≤ ((16 : Int32)).toNatClampNeg) := inb_of S1504 ⟨by decide, by decide⟩
   have hat1504 : cl1504.slots[((16 : Int32)).toNatClampNeg]? = some (.int (1 : Int32)) := H1504.at hin1504 rfl
   refine Xh1465.iaload hx (j := (16 : Int32)) (v := (.int (1 : Int32))) (by rw [e1462]; exact Ar1504.1) (State.isArrayOf_alike hZ.alike Ar1504.2.1) Ar1504.2.2 hin1504 hat1504 (g := (fr_law m p1 p2 q3 q4 p5 226 (.val (.int ya)) (.val (.int yb)) (.val (.ref b1371)) (.val (.ref b1387)) (.val (.int (5 : Int32))) (.val (.int cn)) (.val (.long q3)) .second (.val (.long j1)) .second (.val (.long j2)) .second (.val (.int yb)) .unset .unset .unset .unset [(.int (16 : Int32)), (.ref b1387), (.ref b1371)])) rfl rfl (hb hby at_226) t ?_
   obtain ⟨cl1505, Ar1505, q1505, S1505, N1505, H1505, G1505⟩ := id f1466
   have hin1505 : ¬ ((1 : Int32) < 0 ∨ cl1505.slots.size ≤ ((1 : Int32)).toNatClampNeg) := inb_of S1505 ⟨by decide, by decide⟩
   have hat1505 : cl1505.slots[((1 : Int32)).toNatClampNeg]? = some (.int ya) := H1505.at hin1505 rfl
   refine Xh1465.iaload hx (j := (1 : Int32)) (v := (.int ya)) (by rw [e1462]; exact Ar1505.1) (State.isArrayOf_alike hZ.alike Ar1505.2.1) Ar1505.2.2 hin1505 hat1505 (g := (fr_law m p1 p2 q3 q4 p5 227 (.val (.int ya)) (.val (.int yb)) (.val (.ref b1371)) (.val (.ref b1387)) (.val (.int (5 : Int32))) (.val (.int cn)) (.val (.long q3)) .second (.val (.long j1)) .second (.val (.long j2)) .second (.val (.int yb)) .unset .unset .unset .unset [(.int (1 : Int32)), (.ref b1371)])) rfl rfl (hb hby at_227) t ?_
   refine XS.istore Xh1465.here hx rfl (hb hby at_228) rfl (l' := #[.val (.int p1), .val (.int p2), .val (.long q3), .second, .val (.long q4), .second, .val (.int p5), .val (.int p1), .val (.int ya), .val (.int yb), .val (.ref b1371), .val (.ref b1387), .val (.int (5 : Int32)), .val (.int cn), .val (.long q3), .second, .val (.long j1), .second, .val (.long j2), .second, .val (.int yb), .val (.int ya), .unset, .unset, .unset]) rfl ?_
   show Steps p.tables e below (T1462.setTop (fr_law m p1 p2 q3 q4 p5 230 (.val (.int ya)) (.val (.int yb)) (.val (.ref b1371)) (.val (.ref b1387)) (.val (.int (5 : Int32))) (.val (.int cn)) (.val (.long q3)) .second (.val (.long j1)) .second (.val (.long j2)) .second (.val (.int yb)) (.val (.int ya)) .unset .unset .unset [])) t
   refine XS.aload Xh1465.here hx rfl (hb hby at_230) rfl rfl ?_
   refine XS.aload Xh1465.here hx rfl (hb hby at_232) rfl rfl ?_
   refine XS.iload Xh1465.here hx rfl (hb hby at_234) rfl ?_
   show Steps p.tables e below (T1462.setTop (fr_law m p1 p2 q3 q4 p5 236 (.val (.int ya)) (.val (.int yb)) (.val (.ref b1371)) (.val (.ref b1387)) (.val (.int (5 : Int32))) (.val (.int cn)) (.val (.long q3)) .second (.val (.long j1)) .second (.val (.long j2)) .second (.val (.int yb)) (.val (.int ya)) .unset .unset .unset [(.int (5 : Int32)), (.ref b1387), (.ref b1371)])) t
   refine XS.iconst Xh1465.here hx rfl (hb hby at_236) ?_
   refine XS.imul Xh1465.here hx rfl (hb hby at_237) rfl ?_
   refine XS.iconst Xh1465.here hx rfl (hb hby at_238) ?_
   show Steps p.tables e below (T1462.setTop (fr_law m p1 p2 q3 q4 p5 239 (.val (.int ya)) (.val (.int yb)) (.val (.ref b1371)) (.val (.ref b1387)) (.val (.int (5 : Int32))) (.val (.int cn)) (.val (.long q3)) .second (.val (.long j1)) .second (.val (.long j2)) .second (.val (.int yb)) (.val (.int ya)) .unset .unset .unset [(.int (2 : Int32)), (.int (15 : Int32)), (.ref b1387), (.ref b1371)])) t
   refine XS.iadd Xh1465.here hx rfl (hb hby at_239) rfl ?_
   obtain ⟨cl1506, Ar1506, q1506, S1506, N1506, H1506, G1506⟩ := id V1463
   have hin1506 : ¬ ((17 : Int32) < 0 ∨ cl1506.slots.size ≤ ((17 : Int32)).toNatClampNeg) := inb_of S1506 ⟨by decide, by decide⟩
   have hat1506 : cl1506.slots[((17 : Int32)).toNatClampNeg]? = some (.int (0 : Int32)) := H1506.at hin1506 rfl
   refine Xh1465.iaload hx (j := (17 : Int32)) (v := (.int (0 : Int32))) (by rw [e1462]; exact Ar1506.1) (State.isArrayOf_alike hZ.alike Ar1506.2.1) Ar1506.2.2 hin1506 hat1506 (g := (fr_law m p1 p2 q3 q4 p5 240 (.val (.int ya)) (.val (.int yb)) (.val (.ref b1371)) (.val (.ref b1387)) (.val (.int (5 : Int32))) (.val (.int cn)) (.val (.long q3)) .second (.val (.long j1)) .second (.val (.long j2)) .second (.val (.int yb)) (.val (.int ya)) .unset .unset .unset [(.int (17 : Int32)), (.ref b1387), (.ref b1371)])) rfl rfl (hb hby at_240) t ?_
   obtain ⟨cl1507, Ar1507, q1507, S1507, N1507, H1507, G1507⟩ := id f1466
   have hin1507 : ¬ ((0 : Int32) < 0 ∨ cl1507.slots.size ≤ ((0 : Int32)).toNatClampNeg) := inb_of S1507 ⟨by decide, by decide⟩
   have hat1507 : cl1507.slots[((0 : Int32)).toNatClampNeg]? = some (.int p1) := H1507.at hin1507 rfl
   refine Xh1465.iaload hx (j := (0 : Int32)) (v := (.int p1)) (by rw [e1462]; exact Ar1507.1) (State.isArrayOf_alike hZ.alike Ar1507.2.1) Ar1507.2.2 hin1507 hat1507 (g := (fr_law m p1 p2 q3 q4 p5 241 (.val (.int ya)) (.val (.int yb)) (.val (.ref b1371)) (.val (.ref b1387)) (.val (.int (5 : Int32))) (.val (.int cn)) (.val (.long q3)) .second (.val (.long j1)) .second (.val (.long j2)) .second (.val (.int yb)) (.val (.int ya)) .unset .unset .unset [(.int (0 : Int32)), (.ref b1371)])) rfl rfl (hb hby at_241) t ?_
   show Steps p.tables e below (T1462.setTop (fr_law m p1 p2 q3 q4 p5 242 (.val (.int ya)) (.val (.int yb)) (.val (.ref b1371)) (.val (.ref b1387)) (.val (.int (5 : Int32))) (.val (.int cn)) (.val (.long q3)) .second (.val (.long j1)) .second (.val (.long j2)) .second (.val (.int yb)) (.val (.int ya)) .unset .unset .unset [(.int p1)])) t
   refine XS.istore Xh1465.here hx rfl (hb hby at_242) rfl (l' := #[.val (.int p1), .val (.int p2), .val (.long q3), .second, .val (.long q4), .second, .val (.int p5), .val (.int p1), .val (.int ya), .val (.int yb), .val (.ref b1371), .val (.ref b1387), .val (.int (5 : Int32)), .val (.int cn), .val (.long q3), .second, .val (.long j1), .second, .val (.long j2), .second, .val (.int yb), .val (.int ya), .val (.int p1), .unset, .unset]) rfl ?_
   show Steps p.tables e below (T1462.setTop (fr_law m p1 p2 q3 q4 p5 244 (.val (.int ya)) (.val (.int yb)) (.val (.ref b1371)) (.val (.ref b1387)) (.val (.int (5 : Int32))) (.val (.int cn)) (.val (.long q3)) .second (.val (.long j1)) .second (.val (.long j2)) .second (.val (.int yb)) (.val (.int ya)) (.val (.int p1)) .unset .unset [])) t
   exact kt
 refine ownBy seg1471 ?_
 show ownG p.tables e below _ (T1462.setTop (fr_law m p1 p2 q3 q4 p5 244 (.val (.int ya)) (.val (.int yb)) (.val (.ref b1371)) (.val (.ref b1387)) (.val (.int ix)) (.val (.int cn)) (.val (.long q3)) .second (.val (.long j1)) .second (.val (.long j2)) .second (.val (.int x0)) (.val (.int x1)) (.val (.int x2)) .unset .unset []))
 clear hix
 obtain ⟨T1508, h1508, X1508, e1508, E1508, A1508, D1508, -, st1508⟩ := newO Xh1465 hx hZ hown (Wd2 hw) (Wd3 hw) (Wd4 hw) e1462 (g := (fr_law m p1 p2 q3 q4 p5 244 (.val (.int ya)) (.val (.int yb)) (.val (.ref b1371)) (.val (.ref b1387)) (.val (.int ix)) (.val (.int cn)) (.val (.long q3)) .second (.val (.long j1)) .second (.val (.long j2)) .second (.val (.int x0)) (.val (.int x1)) (.val (.int x2)) .unset .unset [])) rfl (hb hby at_244) (by decide) (by decide)
 obtain ⟨b1508, g1508⟩ : ∃ z, z = h1462.size := ⟨_, rfl⟩
 rw [← g1508] at A1508 D1508 st1508
 have ne1509 : b1371 ≠ b1508 := Nat.ne_of_lt (Nat.lt_of_lt_of_le f1466.lt (Nat.le_of_eq g1508.symm))
 have ne1510 : b1387 ≠ b1508 := Nat.ne_of_lt (Nat.lt_of_lt_of_le V1463.lt (Nat.le_of_eq g1508.symm))
 have f1512 := (Nat.le_trans (Nat.le_trans (Nat.le_trans (Nat.le_trans (Nat.le_trans (Nat.le_trans (Nat.le_trans (Nat.le_trans (Nat.le_trans (Nat.le_trans (Nat.le_trans (Nat.le_trans (Nat.le_trans (Nat.le_trans (Nat.le_trans (Nat.le_trans (Nat.le_trans (Nat.le_trans (Nat.le_trans f1390 E1387.1) (Keep.of_wr W1394).1) (Keep.of_wr W1398).1) (Keep.of_wr W1402).1) (Keep.of_wr W1406).1) (Keep.of_wr W1410).1) (Keep.of_wr W1414).1) (Keep.of_wr W1418).1) (Keep.of_wr W1422).1) (Keep.of_wr W1426).1) (Keep.of_wr W1430).1) (Keep.of_wr W1434).1) (Keep.of_wr W1438).1) (Keep.of_wr W1442).1) (Keep.of_wr W1446).1) (Keep.of_wr W1450).1) (Keep.of_wr W1454).1) (Keep.of_wr W1458).1) (Keep.of_wr W1462).1)
 have g1511 : n0 ≤ b1508 := Nat.le_trans f1512 (Nat.le_of_eq g1508.symm)
 have f1514 := (Nat.le_trans (Nat.le_trans (Nat.le_trans (Nat.le_trans (Nat.le_trans (Nat.le_trans (Nat.le_trans (Nat.le_trans (Nat.le_trans (Nat.le_trans (Nat.le_trans (Nat.le_trans (Nat.le_trans (Nat.le_trans (Nat.le_trans (Nat.le_trans (Nat.le_trans (Nat.le_trans (Nat.le_trans f1392 E1387.1) (Keep.of_wr W1394).1) (Keep.of_wr W1398).1) (Keep.of_wr W1402).1) (Keep.of_wr W1406).1) (Keep.of_wr W1410).1) (Keep.of_wr W1414).1) (Keep.of_wr W1418).1) (Keep.of_wr W1422).1) (Keep.of_wr W1426).1) (Keep.of_wr W1430).1) (Keep.of_wr W1434).1) (Keep.of_wr W1438).1) (Keep.of_wr W1442).1) (Keep.of_wr W1446).1) (Keep.of_wr W1450).1) (Keep.of_wr W1454).1) (Keep.of_wr W1458).1) (Keep.of_wr W1462).1)
 have z1513 : h0.size ≤ b1508 := Nat.le_trans f1514 (Nat.le_of_eq g1508.symm)
 have F1515 : Fld Z h1508 b1508 "com/example/vestline/vestline/HoursByPlanYear$Builder" "years" "[I" .null := D1508 (Or.inl (Wd36 hw)) (ty := (.array .int)) (by decide)
 have F1516 : Fld Z h1508 b1508 "com/example/vestline/vestline/HoursByPlanYear$Builder" "hours" "[Ljava/math/BigDecimal;" .null := D1508 (Or.inl (Wd40 hw)) (ty := (.array (.object "java/math/BigDecimal"))) (by decide)
 have F1517 : Fld Z h1508 b1508 "com/example/vestline/vestline/HoursByPlanYear$Builder" "columns" "Ljava/util/List;" .null := D1508 (Or.inr (Wd42 hw)) (ty := (.object "java/util/List")) (by decide)
 have F1518 : Fld Z h1508 b1508 "com/example/vestline/vestline/HoursByPlanYear$Builder" "numbers" "[[J" .null := D1508 (Or.inr (Wd58 hw)) (ty := (.array (.array .long))) (by decide)
 have F1519 : Fld Z h1508 b1508 "com/example/vestline/vestline/HoursByPlanYear$Builder" "size" "I" (.int (0 : Int32)) := D1508 (Or.inl (Wd65 hw)) (ty := .int) (by decide)
 have F1520 : Fld Z h1508 b1508 "com/example/vestline/vestline/HoursByPlanYear$Builder" "firstLine" "J" (.long (0 : Int64)) := D1508 (Or.inl (Wd67 hw)) (ty := .long) (by decide)
 have F1521 : Fld Z h1508 b1508 "com/example/vestline/vestline/HoursByPlanYear$Builder" "lines" "[J" .null := D1508 (Or.inl (Wd73 hw)) (ty := (.array .long)) (by decide)
 refine ownBy st1508 ?_
 clear st1508
 show ownG p.tables e below _ (T1508.setTop (fr_law m p1 p2 q3 q4 p5 247 (.val (.int ya)) (.val (.int yb)) (.val (.ref b1371)) (.val (.ref b1387)) (.val (.int ix)) (.val (.int cn)) (.val (.long q3)) .second (.val (.long j1)) .second (.val (.long j2)) .second (.val (.int x0)) (.val (.int x1)) (.val (.int x2)) .unset .unset [(.ref b1508)]))
 obtain ⟨b, hqb⟩ : ∃ z, z = b1508 := ⟨_, rfl⟩
 subst hqb
 show ownG p.tables e below _ (T1508.setTop (fr_law m p1 p2 q3 q4 p5 247 (.val (.int ya)) (.val (.int yb)) (.val (.ref b1371)) (.val (.ref b1387)) (.val (.int ix)) (.val (.int cn)) (.val (.long q3)) .second (.val (.long j1)) .second (.val (.long j2)) .second (.val (.int x0)) (.val (.int x1)) (.val (.int x2)) .unset .unset [(.ref b)]))
 refine ownBy (A := T1508.setTop (fr_law m p1 p2 q3 q4 p5 248 (.val (.int ya)) (.val (.int yb)) (.val (.ref b1371)) (.val (.ref b1387)) (.val (.int ix)) (.val (.int cn)) (.val (.long q3)) .second (.val (.long j1)) .second (.val (.long j2)) .second (.val (.int x0)) (.val (.int x1)) (.val (.int x2)) .unset .unset [(.ref b), (.ref b)])) (fun t kt => ?_) ?_
 ·refine XS.dup X1508.here hx rfl (hb hby at_247) rfl rfl ?_
  exact kt
 obtain ⟨T1522, h1522, X1522, e1522, E1522, A1522, D1522, -, st1522⟩ := newO X1508 hx hZ hown (Wd5 hw) (Wd6 hw) (Wd7 hw) e1508 (g := (fr_law m p1 p2 q3 q4 p5 248 (.val (.int ya)) (.val (.int yb)) (.val (.ref b1371)) (.val (.ref b1387)) (.val (.int ix)) (.val (.int cn)) (.val (.long q3)) .second (.val (.long j1)) .second (.val (.long j2)) .second (.val (.int x0)) (.val (.int x1)) (.val (.int x2)) .unset .unset [(.ref b), (.ref b)])) rfl (hb hby at_248) (by decide) (by decide)
 obtain ⟨b1522, g1522⟩ : ∃ z, z = h1508.size := ⟨_, rfl⟩
 rw [← g1522] at A1522 D1522 st1522
 have f1524 := (f1466.ext E1508)
 have ne1523 : b1371 ≠ b1522 := Nat.ne_of_lt (Nat.lt_of_lt_of_le f1524.lt (Nat.le_of_eq g1522.symm))
 have f1526 := (V1463.ext E1508)
 have ne1525 : b1387 ≠ b1522 := Nat.ne_of_lt (Nat.lt_of_lt_of_le f1526.lt (Nat.le_of_eq g1522.symm))
 have ne1527 : b ≠ b1522 := Nat.ne_of_lt (Nat.lt_of_lt_of_le A1508.lt (Nat.le_of_eq g1522.symm))
 have f1529 := (Nat.le_trans f1512 E1508.1)
 have g1528 : n0 ≤ b1522 := Nat.le_trans f1529 (Nat.le_of_eq g1522.symm)
 have f1531 := (Nat.le_trans f1514 E1508.1)
 have z1530 : h0.size ≤ b1522 := Nat.le_trans f1531 (Nat.le_of_eq g1522.symm)
 have F1532 : Fld Z h1522 b1522 "java/util/AbstractList" "modCount" "I" (.int (0 : Int32)) := D1522 (Or.inl (Wd27 hw)) (ty := .int) (by decide)
 have F1533 : Fld Z h1522 b1522 "java/util/ArrayList" "elementData" "[Ljava/lang/Object;" .null := D1522 (Or.inl (Wd30 hw)) (ty := (.array (.object "java/lang/Object"))) (by decide)
 have F1534 : Fld Z h1522 b1522 "java/util/ArrayList" "size" "I" (.int (0 : Int32)) := D1522 (Or.inl (Wd53 hw)) (ty := .int) (by decide)
 refine ownBy st1522 ?_
 clear st1522
 show ownG p.tables e below _ (T1522.setTop (fr_law m p1 p2 q3 q4 p5 251 (.val (.int ya)) (.val (.int yb)) (.val (.ref b1371)) (.val (.ref b1387)) (.val (.int ix)) (.val (.int cn)) (.val (.long q3)) .second (.val (.long j1)) .second (.val (.long j2)) .second (.val (.int x0)) (.val (.int x1)) (.val (.int x2)) .unset .unset [(.ref b1522), (.ref b), (.ref b)]))
 refine ownBy (A := T1522.setTop (fr_law m p1 p2 q3 q4 p5 252 (.val (.int ya)) (.val (.int yb)) (.val (.ref b1371)) (.val (.ref b1387)) (.val (.int ix)) (.val (.int cn)) (.val (.long q3)) .second (.val (.long j1)) .second (.val (.long j2)) .second (.val (.int x0)) (.val (.int x1)) (.val (.int x2)) .unset .unset [(.ref b1522), (.ref b1522), (.ref b), (.ref b)])) (fun t kt => ?_) ?_
 ·refine XS.dup X1522.here hx rfl (hb hby at_251) rfl rfl ?_
  exact kt
 have f1535 := (((((((((((((((((((((((((X00.ext E1371).wr W1375 g1372).wr W1379 g1372).wr W1383 g1372).ext E1387).wr W1394 g1389).wr W1398 g1389).wr W1402 g1389).wr W1406 g1389).wr W1410 g1389).wr W1414 g1389).wr W1418 g1389).wr W1422 g1389).wr W1426 g1389).wr W1430 g1389).wr W1434 g1389).wr W1438 g1389).wr W1442 g1389).wr W1446 g1389).wr W1450 g1389).wr W1454 g1389).wr W1458 g1389).wr W1462 g1389).ext E1508).ext E1522)
 have f1536 := (Nat.le_trans f1529 E1522.1)
 obtain ⟨vv1537, _, ⟨T1537, L1537, k1537, n1537⟩, -, X1537, ⟨Lc1537, hQ1537, l1537, y1537, z1537⟩, st1537⟩ := X1522.specialBack hx (y := (⟨"java/util/ArrayList", "<init>", "()V"⟩ : MethodName)) rfl hown (mvT hZ (Wd8 hw)) (mvT hZ (Wd9 hw)) (mvT hZ (Wd10 hw)) (by decide) (backOf (W := 3) (c_alst l Z a0 hw [] b1522 _ _ DV h1522 n0 f1536 A1522 F1532 F1533 F1534 g1528 SD rDV f1535) hZ (Wd10 hw) (Wd7 hw) (by decide) (by decide)) (g := (fr_law m p1 p2 q3 q4 p5 252 (.val (.int ya)) (.val (.int yb)) (.val (.ref b1371)) (.val (.ref b1387)) (.val (.int ix)) (.val (.int cn)) (.val (.long q3)) .second (.val (.long j1)) .second (.val (.long j2)) .second (.val (.int x0)) (.val (.int x1)) (.val (.int x2)) .unset .unset [(.ref b1522), (.ref b1522), (.ref b), (.ref b)])) rfl (by rw [hml]; rfl) (Steps.refl _) (a := b1522) (argsL := []) (rest := [(.ref b1522), (.ref b), (.ref b)]) (lenOf pd_47 rfl) rfl (by show 2 * 0 + _ ≤ _; exact Nat.le_of_eq rfl) (hb hby at_252) (fun _ _ => ⟨rfl, e1522, (by decide : 4 + 0 ≤ _), (by decide : 31 + 0 ≤ _)⟩)
 dsimp only [Pt.U, Pt.locs, Pt.cells, Pt.slots] at X1537 l1537 y1537 z1537 st1537 hQ1537
 subst l1537 y1537 z1537
 obtain ⟨rfl, Nq1537, Kq1537, Eq1537, Fq1537⟩ := hQ1537
 have N1538 := Fr.app Nh1465 Nq1537
 obtain ⟨Lh1539, Xh1539, Nh1539⟩ := oHd 4 31 X1537 N1538 rfl rfl
 refine ownSt st1537 ?_
 clear st1537
 show ownG p.tables e below _ (T1537.setTop (fr_law m p1 p2 q3 q4 p5 255 (.val (.int ya)) (.val (.int yb)) (.val (.ref b1371)) (.val (.ref b1387)) (.val (.int ix)) (.val (.int cn)) (.val (.long q3)) .second (.val (.long j1)) .second (.val (.long j2)) .second (.val (.int x0)) (.val (.int x1)) (.val (.int x2)) .unset .unset [(.ref b1522), (.ref b), (.ref b)]))
 have f1540 := ((A1508.ext E1522).keep Kq1537)
 have f1541 := ((F1515.ext E1522).keep Kq1537 (ninS ne1527 nin0))
 have f1542 := ((F1516.ext E1522).keep Kq1537 (ninS ne1527 nin0))
 have f1543 := ((F1517.ext E1522).keep Kq1537 (ninS ne1527 nin0))
 have f1544 := ((F1518.ext E1522).keep Kq1537 (ninS ne1527 nin0))
 have f1545 := ((F1519.ext E1522).keep Kq1537 (ninS ne1527 nin0))
 have f1546 := ((F1520.ext E1522).keep Kq1537 (ninS ne1527 nin0))
 have f1547 := ((F1521.ext E1522).keep Kq1537 (ninS ne1527 nin0))
 have f1548 := (A1522.keep Kq1537)
 have f1549 := (Nat.le_trans f1536 Kq1537.1)
 obtain ⟨vv1550, _, ⟨T1550, L1550, k1550, n1550⟩, -, X1550, ⟨Lc1550, hQ1550, l1550, y1550, z1550⟩, st1550⟩ := Xh1539.specialBack hx (y := (⟨"com/example/vestline/vestline/HoursByPlanYear$Builder", "<init>", "(Ljava/util/List;)V"⟩ : MethodName)) rfl hown (mvT hZ (Wd31 hw)) (mvT hZ (Wd32 hw)) (mvT hZ (Wd33 hw)) (by decide) (backOf (W := 1) (c_bctor l Z a0 hw [] b b1522 T1537.heap n0 f1549 f1540 f1541 f1542 f1543 f1544 f1545 f1546 f1547 f1548 Fq1537 g1511 ne1527) hZ (Wd33 hw) (Wd4 hw) (by decide) (by decide)) (g := (fr_law m p1 p2 q3 q4 p5 255 (.val (.int ya)) (.val (.int yb)) (.val (.ref b1371)) (.val (.ref b1387)) (.val (.int ix)) (.val (.int cn)) (.val (.long q3)) .second (.val (.long j1)) .second (.val (.long j2)) .second (.val (.int x0)) (.val (.int x1)) (.val (.int x2)) .unset .unset [(.ref b1522), (.ref b), (.ref b)])) rfl (by rw [hml]; rfl) (Steps.refl _) (a := b) (argsL := [(.ref b1522)]) (rest := [(.ref b)]) (lenOf pd_1551 rfl) rfl (by show 2 * 0 + _ ≤ _; exact Nat.le_of_eq rfl) (hb hby at_255) (fun _ _ => ⟨rfl, rfl, (by decide : 4 + 3 ≤ _), (by decide : 31 + 16 ≤ _)⟩)
 dsimp only [Pt.U, Pt.locs, Pt.cells, Pt.slots] at X1550 l1550 y1550 z1550 st1550 hQ1550
 subst l1550 y1550 z1550
 obtain ⟨rfl, Nq1550, zq1550, y, hh, nn, ky, kh, kn, gy, gh, E11550, Fy1550, Fh1550, Fn1550, Fs1550, Ff1550, Fl1550, Ay1550, Ah1550, An1550⟩ := hQ1550
 have N1552 := Fr.app Nh1539 Nq1550
 obtain ⟨Lh1553, Xh1553, Nh1553⟩ := oHd 7 47 X1550 N1552 rfl rfl
 refine ownSt st1550 ?_
 show ownG p.tables e below _ (T1550.setTop (fr_law m p1 p2 q3 q4 p5 258 (.val (.int ya)) (.val (.int yb)) (.val (.ref b1371)) (.val (.ref b1387)) (.val (.int ix)) (.val (.int cn)) (.val (.long q3)) .second (.val (.long j1)) .second (.val (.long j2)) .second (.val (.int x0)) (.val (.int x1)) (.val (.int x2)) .unset .unset [(.ref b)]))
 refine ownBy (A := T1550.setTop (fr_law m p1 p2 q3 q4 p5 268 (.val (.int ya)) (.val (.int yb)) (.val (.ref b1371)) (.val (.ref b1387)) (.val (.int ix)) (.val (.int cn)) (.val (.long q3)) .second (.val (.long j1)) .second (.val (.long j2)) .second (.val (.int x0)) (.val (.int x1)) (.val (.int x2)) (.val (.ref b)) .unset [(.long q3), .null, .null, (.int x0), (.ref b)])) (fun t kt => ?_) ?_
 ·refine XS.astore Xh1553.here hx rfl (hb hby at_258) rfl rfl (l' := #[.val (.int p1), .val (.int p2), .val (.long q3), .second, .val (.long q4), .second, .val (.int p5), .val (.int p1), .val (.int ya), .val (.int yb), .val (.ref b1371), .val (.ref b1387), .val (.int ix), .val (.int cn), .val (.long q3), .second, .val (.long j1), .second, .val (.long j2), .second, .val (.int x0), .val (.int x1), .val (.int x2), .val (.ref b), .unset]) rfl ?_
  refine XS.aload Xh1553.here hx rfl (hb hby at_260) rfl rfl ?_
  refine XS.iload Xh1553.here hx rfl (hb hby at_262) rfl ?_
  show Steps p.tables e below (T1550.setTop (fr_law m p1 p2 q3 q4 p5 264 (.val (.int ya)) (.val (.int yb)) (.val (.ref b1371)) (.val (.ref b1387)) (.val (.int ix)) (.val (.int cn)) (.val (.long q3)) .second (.val (.long j1)) .second (.val (.long j2)) .second (.val (.int x0)) (.val (.int x1)) (.val (.int x2)) (.val (.ref b)) .unset [(.int x0), (.ref b)])) t
  refine XS.aconstNull Xh1553.here hx rfl (hb hby at_264) ?_
  refine XS.aconstNull Xh1553.here hx rfl (hb hby at_265) ?_
  refine XS.lload Xh1553.here hx rfl (hb hby at_266) rfl ?_
  exact kt
 obtain ⟨cq1554, kq1554, q1554a, q1554b, q1554c⟩ := isOf hZ rfl E11550
 obtain ⟨vv1554, _, ⟨T1554, L1554, k1554, n1554⟩, -, X1554, ⟨Lc1554, hQ1554, l1554, y1554, z1554⟩, st1554⟩ := Xh1553.virtualBack hx (y := (⟨"com/example/vestline/vestline/HoursByPlanYear$Builder", "add", "(ILjava/math/BigDecimal;Ljava/util/List;J)V"⟩ : MethodName)) (z := (⟨"com/example/vestline/vestline/HoursByPlanYear$Builder", "add", "(ILjava/math/BigDecimal;Ljava/util/List;J)V"⟩ : MethodName)) hown (mvT hZ (Wd59 hw)) (mvT hZ (Wd60 hw)) (notFace_of_selects (args := #[]) (mvT hZ (Wd62 hw))) (mvT hZ (Wd62 hw)) (mvT hZ (Wd61 hw)) (by decide) (backOf (W := 0) (c_add0 l Z a0 hw [] b y hh nn ky kh kn x0 q3 T1550.heap n0 (Nat.le_trans f1549 zq1550) E11550 Fy1550 Fh1550 Fn1550 Fs1550 Ff1550 Fl1550 Ay1550 Ah1550 An1550 g1511 gy gh) hZ (Wd63 hw) (Wd4 hw) (by decide) (by decide)) q1554a q1554c (g := (fr_law m p1 p2 q3 q4 p5 268 (.val (.int ya)) (.val (.int yb)) (.val (.ref b1371)) (.val (.ref b1387)) (.val (.int ix)) (.val (.int cn)) (.val (.long q3)) .second (.val (.long j1)) .second (.val (.long j2)) .second (.val (.int x0)) (.val (.int x1)) (.val (.int x2)) (.val (.ref b)) .unset [(.long q3), .null, .null, (.int x0), (.ref b)])) rfl (by rw [hml]; rfl) (Steps.refl _) (argsL := [(.int x0), .null, .null, (.long q3)]) (rest := []) (lenOf pd_1555 rfl) rfl (by show 2 * 0 + _ ≤ _; exact Nat.le_of_eq rfl) (hb hby at_268) (fun _ _ => ⟨rfl, rfl, (by decide : 7 + 1 ≤ _), (by decide : 47 + 8 ≤ _)⟩)
 dsimp only [Pt.U, Pt.locs, Pt.cells, Pt.slots] at X1554 l1554 y1554 z1554 st1554 hQ1554
 subst l1554 y1554 z1554
 obtain ⟨rfl, Nq1554, zq1554, z1554_0, m1554_0, f1554, lv1554, hpm1554, E11554, Fy1554, Fh1554, Fn1554, Fs1554, Ff1554, Fl1554, Ay1554, Ah1554, An1554, hLN1554⟩ := hQ1554
 have N1556 := Fr.app Nh1553 Nq1554
 obtain ⟨Lh1557, Xh1557, Nh1557⟩ := oHd 8 55 X1554 N1556 rfl rfl
 refine ownSt st1554 ?_
 show ownG p.tables e below _ (T1554.setTop (fr_law m p1 p2 q3 q4 p5 271 (.val (.int ya)) (.val (.int yb)) (.val (.ref b1371)) (.val (.ref b1387)) (.val (.int ix)) (.val (.int cn)) (.val (.long q3)) .second (.val (.long j1)) .second (.val (.long j2)) .second (.val (.int x0)) (.val (.int x1)) (.val (.int x2)) (.val (.ref b)) .unset []))
 refine ownBy (A := T1554.setTop (fr_law m p1 p2 q3 q4 p5 274 (.val (.int ya)) (.val (.int yb)) (.val (.ref b1371)) (.val (.ref b1387)) (.val (.int ix)) (.val (.int cn)) (.val (.long q3)) .second (.val (.long j1)) .second (.val (.long j2)) .second (.val (.int x0)) (.val (.int x1)) (.val (.int x2)) (.val (.ref b)) .unset [(.int (2 : Int32)), (.int cn)])) (fun t kt => ?_) ?_
 ·refine XS.iload Xh1557.here hx rfl (hb hby at_271) rfl ?_
  refine XS.iconst Xh1557.here hx rfl (hb hby at_273) ?_
  exact kt
 by_cases hc1558 : cn < (2 : Int32)
 ·skip
  refine ownBy (A := T1554.setTop (fr_law m p1 p2 q3 q4 p5 309 (.val (.int ya)) (.val (.int yb)) (.val (.ref b1371)) (.val (.ref b1387)) (.val (.int ix)) (.val (.int cn)) (.val (.long q3)) .second (.val (.long j1)) .second (.val (.long j2)) .second (.val (.int x0)) (.val (.int x1)) (.val (.int x2)) (.val (.ref b)) .unset [(.int x0), (.ref b)])) (fun t kt => ?_) ?_
  ·refine XS.icmpYes Xh1557.here hx rfl (pc0 := 274) (pc' := 288) rfl (hb hby at_274) rfl (tlt hc1558).1 (by decide) (by decide) ?_
   refine XS.iload Xh1557.here hx rfl (hb hby at_288) rfl ?_
   refine XS.iconst Xh1557.here hx rfl (hb hby at_290) ?_
   show Steps p.tables e below (T1554.setTop (fr_law m p1 p2 q3 q4 p5 291 (.val (.int ya)) (.val (.int yb)) (.val (.ref b1371)) (.val (.ref b1387)) (.val (.int ix)) (.val (.int cn)) (.val (.long q3)) .second (.val (.long j1)) .second (.val (.long j2)) .second (.val (.int x0)) (.val (.int x1)) (.val (.int x2)) (.val (.ref b)) .unset [(.int (3 : Int32)), (.int cn)])) t
   refine XS.icmpYes Xh1557.here hx rfl (pc0 := 291) (pc' := 305) rfl (hb hby at_291) rfl (tlt (own_lt23 hc1558)).1 (by decide) (by decide) ?_
   refine XS.aload Xh1557.here hx rfl (hb hby at_305) rfl rfl ?_
   refine XS.iload Xh1557.here hx rfl (hb hby at_307) rfl ?_
   exact kt
  obtain ⟨cq1559, kq1559, q1559a, q1559b, q1559c⟩ := isOf hZ rfl E11554
  obtain ⟨vv1559, _, ⟨T1559, L1559, k1559, n1559⟩, -, X1559, ⟨Lc1559, hQ1559, l1559, y1559, z1559⟩, st1559⟩ := Xh1557.virtualBack hx (y := (⟨"com/example/vestline/vestline/HoursByPlanYear$Builder", "lineOf", "(I)J"⟩ : MethodName)) (z := (⟨"com/example/vestline/vestline/HoursByPlanYear$Builder", "lineOf", "(I)J"⟩ : MethodName)) hown (mvT hZ (Wd74 hw)) (mvT hZ (Wd75 hw)) (notFace_of_selects (args := #[]) (mvT hZ (Wd77 hw))) (mvT hZ (Wd77 hw)) (mvT hZ (Wd76 hw)) (by decide) (backOf (W := 0) (c_lof1 l Z a0 hw [] b y hh nn ky kh kn z1554_0 m1554_0 f1554 lv1554 x0 T1554.heap n0 (Nat.le_trans (Nat.le_trans f1549 zq1550) zq1554) E11554 Fy1554 Fh1554 Fn1554 Fs1554 Ff1554 Fl1554 Ay1554 Ah1554 An1554 hLN1554 ((own_h1 hpm1554).mpr rfl)) hZ (Wd78 hw) (Wd4 hw) (by decide) (by decide)) q1559a q1559c (g := (fr_law m p1 p2 q3 q4 p5 309 (.val (.int ya)) (.val (.int yb)) (.val (.ref b1371)) (.val (.ref b1387)) (.val (.int ix)) (.val (.int cn)) (.val (.long q3)) .second (.val (.long j1)) .second (.val (.long j2)) .second (.val (.int x0)) (.val (.int x1)) (.val (.int x2)) (.val (.ref b)) .unset [(.int x0), (.ref b)])) rfl (by rw [hml]; rfl) (Steps.refl _) (argsL := [(.int x0)]) (rest := []) (lenOf pd_1560 rfl) rfl (by show 2 * 0 + _ ≤ _; exact Nat.le_of_eq rfl) (hb hby at_309) (fun _ _ => ⟨rfl, rfl, (by decide : 8 + 0 ≤ _), (by decide : 55 + 0 ≤ _)⟩)
  dsimp only [Pt.U, Pt.locs, Pt.cells, Pt.slots] at X1559 l1559 y1559 z1559 st1559 hQ1559
  subst l1559 y1559 z1559
  obtain ⟨r1559, rfl, Nq1559, Eq1559, hR1559⟩ := hQ1559
  have hr1559 : q3 = r1559 := (own_l1 hpm1554 hR1559).symm
  subst hr1559
  have N1561 := Fr.app Nh1557 Nq1559
  obtain ⟨Lh1562, Xh1562, Nh1562⟩ := oHd 8 55 X1559 N1561 rfl rfl
  refine ownSt st1559 ?_
  clear st1559
  show ownG p.tables e below _ (T1559.setTop (fr_law m p1 p2 q3 q4 p5 312 (.val (.int ya)) (.val (.int yb)) (.val (.ref b1371)) (.val (.ref b1387)) (.val (.int ix)) (.val (.int cn)) (.val (.long q3)) .second (.val (.long j1)) .second (.val (.long j2)) .second (.val (.int x0)) (.val (.int x1)) (.val (.int x2)) (.val (.ref b)) .unset [(.long q3)]))
  refine ownBy (A := T1559.setTop (fr_law m p1 p2 q3 q4 p5 389 (.val (.int ya)) (.val (.int yb)) (.val (.ref b1371)) (.val (.ref b1387)) (.val (.int ix)) (.val (.int cn)) (.val (.long q3)) .second (.val (.long j1)) .second (.val (.long j2)) .second (.val (.int x0)) (.val (.int x1)) (.val (.int x2)) (.val (.ref b)) (.val (.int (1 : Int32))) [(.int (1 : Int32))])) (fun t kt => ?_) ?_
  ·refine XS.lload Xh1562.here hx rfl (hb hby at_312) rfl ?_
   refine XS.lcmp Xh1562.here hx rfl (hb hby at_314) rfl ?_
   refine XS.ifNo Xh1562.here hx rfl (hb hby at_315) rfl ((if0 _ _).trans (teq (own_lcmp_self q3)).2) ?_
   show Steps p.tables e below (T1559.setTop (fr_law m p1 p2 q3 q4 p5 318 (.val (.int ya)) (.val (.int yb)) (.val (.ref b1371)) (.val (.ref b1387)) (.val (.int ix)) (.val (.int cn)) (.val (.long q3)) .second (.val (.long j1)) .second (.val (.long j2)) .second (.val (.int x0)) (.val (.int x1)) (.val (.int x2)) (.val (.ref b)) .unset [])) t
   refine XS.iconst Xh1562.here hx rfl (hb hby at_318) ?_
   refine XS.goto Xh1562.here hx rfl (pc0 := 319) (pc' := 323) rfl (hb hby at_319) (by decide) (by decide) ?_
   refine XS.istore Xh1562.here hx rfl (hb hby at_323) rfl (l' := #[.val (.int p1), .val (.int p2), .val (.long q3), .second, .val (.long q4), .second, .val (.int p5), .val (.int p1), .val (.int ya), .val (.int yb), .val (.ref b1371), .val (.ref b1387), .val (.int ix), .val (.int cn), .val (.long q3), .second, .val (.long j1), .second, .val (.long j2), .second, .val (.int x0), .val (.int x1), .val (.int x2), .val (.ref b), .val (.int (1 : Int32))]) rfl ?_
   show Steps p.tables e below (T1559.setTop (fr_law m p1 p2 q3 q4 p5 325 (.val (.int ya)) (.val (.int yb)) (.val (.ref b1371)) (.val (.ref b1387)) (.val (.int ix)) (.val (.int cn)) (.val (.long q3)) .second (.val (.long j1)) .second (.val (.long j2)) .second (.val (.int x0)) (.val (.int x1)) (.val (.int x2)) (.val (.ref b)) (.val (.int (1 : Int32))) [])) t
   refine XS.iload Xh1562.here hx rfl (hb hby at_325) rfl ?_
   refine XS.iconst Xh1562.here hx rfl (hb hby at_327) ?_
   refine XS.icmpYes Xh1562.here hx rfl (pc0 := 328) (pc' := 356) rfl (hb hby at_328) rfl (tlt hc1558).1 (by decide) (by decide) ?_
   show Steps p.tables e below (T1559.setTop (fr_law m p1 p2 q3 q4 p5 356 (.val (.int ya)) (.val (.int yb)) (.val (.ref b1371)) (.val (.ref b1387)) (.val (.int ix)) (.val (.int cn)) (.val (.long q3)) .second (.val (.long j1)) .second (.val (.long j2)) .second (.val (.int x0)) (.val (.int x1)) (.val (.int x2)) (.val (.ref b)) (.val (.int (1 : Int32))) [])) t
   refine XS.iload Xh1562.here hx rfl (hb hby at_356) rfl ?_
   refine XS.iconst Xh1562.here hx rfl (hb hby at_358) ?_
   refine XS.icmpYes Xh1562.here hx rfl (pc0 := 359) (pc' := 387) rfl (hb hby at_359) rfl (tlt (own_lt23 hc1558)).1 (by decide) (by decide) ?_
   show Steps p.tables e below (T1559.setTop (fr_law m p1 p2 q3 q4 p5 387 (.val (.int ya)) (.val (.int yb)) (.val (.ref b1371)) (.val (.ref b1387)) (.val (.int ix)) (.val (.int cn)) (.val (.long q3)) .second (.val (.long j1)) .second (.val (.long j2)) .second (.val (.int x0)) (.val (.int x1)) (.val (.int x2)) (.val (.ref b)) (.val (.int (1 : Int32))) [])) t
   refine XS.iload Xh1562.here hx rfl (hb hby at_387) rfl ?_
   exact kt
  refine ownRet Xh1562 Bd.notSynchronized (v := some (.int (nar .boolean (1 : Int32)))) (fun h => by rw [Bd.returns] at h; cases h) ?_ (oLe rfl) (oLe rfl) (fun fs hr => retN Xh1562 hx (t := .boolean) Bd.returns (by simp) (hb hby at_389) hr)
  show (Q_law Z p1 p2 q3 q4 p5 DV h0 n0) (some (.int (nar .boolean (1 : Int32)))) T1559.heap _
  rw [Eq1559]
  exact ⟨rfl, Nh1562⟩
 ·skip
  refine ownBy (A := T1554.setTop (fr_law m p1 p2 q3 q4 p5 285 (.val (.int ya)) (.val (.int yb)) (.val (.ref b1371)) (.val (.ref b1387)) (.val (.int ix)) (.val (.int cn)) (.val (.long q3)) .second (.val (.long j1)) .second (.val (.long j2)) .second (.val (.int x0)) (.val (.int x1)) (.val (.int x2)) (.val (.ref b)) .unset [(.long j1), .null, .null, (.int x1), (.ref b)])) (fun t kt => ?_) ?_
  ·refine XS.icmpNo Xh1557.here hx rfl (hb hby at_274) rfl (flt hc1558).1 ?_
   refine XS.aload Xh1557.here hx rfl (hb hby at_277) rfl rfl ?_
   refine XS.iload Xh1557.here hx rfl (hb hby at_279) rfl ?_
   show Steps p.tables e below (T1554.setTop (fr_law m p1 p2 q3 q4 p5 281 (.val (.int ya)) (.val (.int yb)) (.val (.ref b1371)) (.val (.ref b1387)) (.val (.int ix)) (.val (.int cn)) (.val (.long q3)) .second (.val (.long j1)) .second (.val (.long j2)) .second (.val (.int x0)) (.val (.int x1)) (.val (.int x2)) (.val (.ref b)) .unset [(.int x1), (.ref b)])) t
   refine XS.aconstNull Xh1557.here hx rfl (hb hby at_281) ?_
   refine XS.aconstNull Xh1557.here hx rfl (hb hby at_282) ?_
   refine XS.lload Xh1557.here hx rfl (hb hby at_283) rfl ?_
   exact kt
  obtain ⟨cq1563, kq1563, q1563a, q1563b, q1563c⟩ := isOf hZ rfl E11554
  obtain ⟨vv1563, _, ⟨T1563, L1563, k1563, n1563⟩, -, X1563, ⟨Lc1563, hQ1563, l1563, y1563, z1563⟩, st1563⟩ := Xh1557.virtualBack hx (y := (⟨"com/example/vestline/vestline/HoursByPlanYear$Builder", "add", "(ILjava/math/BigDecimal;Ljava/util/List;J)V"⟩ : MethodName)) (z := (⟨"com/example/vestline/vestline/HoursByPlanYear$Builder", "add", "(ILjava/math/BigDecimal;Ljava/util/List;J)V"⟩ : MethodName)) hown (mvT hZ (Wd59 hw)) (mvT hZ (Wd60 hw)) (notFace_of_selects (args := #[]) (mvT hZ (Wd62 hw))) (mvT hZ (Wd62 hw)) (mvT hZ (Wd61 hw)) (by decide) (backOf (W := 0) (c_add1 l Z a0 hw [] b y hh nn ky kh kn z1554_0 m1554_0 f1554 lv1554 x1 j1 T1554.heap n0 (Nat.le_trans (Nat.le_trans f1549 zq1550) zq1554) E11554 Fy1554 Fh1554 Fn1554 Fs1554 Ff1554 Fl1554 Ay1554 Ah1554 An1554 hLN1554 g1511 gy gh (own_n1 hpm1554 hj1471.1)) hZ (Wd63 hw) (Wd4 hw) (by decide) (by decide)) q1563a q1563c (g := (fr_law m p1 p2 q3 q4 p5 285 (.val (.int ya)) (.val (.int yb)) (.val (.ref b1371)) (.val (.ref b1387)) (.val (.int ix)) (.val (.int cn)) (.val (.long q3)) .second (.val (.long j1)) .second (.val (.long j2)) .second (.val (.int x0)) (.val (.int x1)) (.val (.int x2)) (.val (.ref b)) .unset [(.long j1), .null, .null, (.int x1), (.ref b)])) rfl (by rw [hml]; rfl) (Steps.refl _) (argsL := [(.int x1), .null, .null, (.long j1)]) (rest := []) (lenOf pd_1555 rfl) rfl (by show 2 * 0 + _ ≤ _; exact Nat.le_of_eq rfl) (hb hby at_285) (fun _ _ => ⟨rfl, rfl, (by decide : 8 + 1 ≤ _), (by decide : 55 + 8 ≤ _)⟩)
  dsimp only [Pt.U, Pt.locs, Pt.cells, Pt.slots] at X1563 l1563 y1563 z1563 st1563 hQ1563
  subst l1563 y1563 z1563
  obtain ⟨rfl, Nq1563, zq1563, z1563_0, z1563_1, m1563_0, m1563_1, f1563, lv1563, hs1563_0, hpm1563, E11563, Fy1563, Fh1563, Fn1563, Fs1563, Ff1563, Fl1563, Ay1563, Ah1563, An1563, hLN1563⟩ := hQ1563
  have N1564 := Fr.app Nh1557 Nq1563
  obtain ⟨Lh1565, Xh1565, Nh1565⟩ := oHd 9 63 X1563 N1564 rfl rfl
  refine ownSt st1563 ?_
  show ownG p.tables e below _ (T1563.setTop (fr_law m p1 p2 q3 q4 p5 288 (.val (.int ya)) (.val (.int yb)) (.val (.ref b1371)) (.val (.ref b1387)) (.val (.int ix)) (.val (.int cn)) (.val (.long q3)) .second (.val (.long j1)) .second (.val (.long j2)) .second (.val (.int x0)) (.val (.int x1)) (.val (.int x2)) (.val (.ref b)) .unset []))
  refine ownBy (A := T1563.setTop (fr_law m p1 p2 q3 q4 p5 291 (.val (.int ya)) (.val (.int yb)) (.val (.ref b1371)) (.val (.ref b1387)) (.val (.int ix)) (.val (.int cn)) (.val (.long q3)) .second (.val (.long j1)) .second (.val (.long j2)) .second (.val (.int x0)) (.val (.int x1)) (.val (.int x2)) (.val (.ref b)) .unset [(.int (3 : Int32)), (.int cn)])) (fun t kt => ?_) ?_
  ·refine XS.iload Xh1565.here hx rfl (hb hby at_288) rfl ?_
   refine XS.iconst Xh1565.here hx rfl (hb hby at_290) ?_
   exact kt
  by_cases hc1566 : cn < (3 : Int32)
  ·skip
   refine ownBy (A := T1563.setTop (fr_law m p1 p2 q3 q4 p5 309 (.val (.int ya)) (.val (.int yb)) (.val (.ref b1371)) (.val (.ref b1387)) (.val (.int ix)) (.val (.int cn)) (.val (.long q3)) .second (.val (.long j1)) .second (.val (.long j2)) .second (.val (.int x0)) (.val (.int x1)) (.val (.int x2)) (.val (.ref b)) .unset [(.int x0), (.ref b)])) (fun t kt => ?_) ?_
   ·refine XS.icmpYes Xh1565.here hx rfl (pc0 := 291) (pc' := 305) rfl (hb hby at_291) rfl (tlt hc1566).1 (by decide) (by decide) ?_
    refine XS.aload Xh1565.here hx rfl (hb hby at_305) rfl rfl ?_
    refine XS.iload Xh1565.here hx rfl (hb hby at_307) rfl ?_
    exact kt
   obtain ⟨cq1567, kq1567, q1567a, q1567b, q1567c⟩ := isOf hZ rfl E11563
   obtain ⟨vv1567, _, ⟨T1567, L1567, k1567, n1567⟩, -, X1567, ⟨Lc1567, hQ1567, l1567, y1567, z1567⟩, st1567⟩ := Xh1565.virtualBack hx (y := (⟨"com/example/vestline/vestline/HoursByPlanYear$Builder", "lineOf", "(I)J"⟩ : MethodName)) (z := (⟨"com/example/vestline/vestline/HoursByPlanYear$Builder", "lineOf", "(I)J"⟩ : MethodName)) hown (mvT hZ (Wd74 hw)) (mvT hZ (Wd75 hw)) (notFace_of_selects (args := #[]) (mvT hZ (Wd77 hw))) (mvT hZ (Wd77 hw)) (mvT hZ (Wd76 hw)) (by decide) (backOf (W := 0) (c_lof2 l Z a0 hw [] b y hh nn ky kh kn z1563_0 z1563_1 m1563_0 m1563_1 f1563 lv1563 x0 T1563.heap n0 (Nat.le_trans (Nat.le_trans (Nat.le_trans f1549 zq1550) zq1554) zq1563) E11563 Fy1563 Fh1563 Fn1563 Fs1563 Ff1563 Fl1563 Ay1563 Ah1563 An1563 hLN1563 hs1563_0 ((own_h2 hpm1554 hpm1563).mpr (Or.inl rfl))) hZ (Wd78 hw) (Wd4 hw) (by decide) (by decide)) q1567a q1567c (g := (fr_law m p1 p2 q3 q4 p5 309 (.val (.int ya)) (.val (.int yb)) (.val (.ref b1371)) (.val (.ref b1387)) (.val (.int ix)) (.val (.int cn)) (.val (.long q3)) .second (.val (.long j1)) .second (.val (.long j2)) .second (.val (.int x0)) (.val (.int x1)) (.val (.int x2)) (.val (.ref b)) .unset [(.int x0), (.ref b)])) rfl (by rw [hml]; rfl) (Steps.refl _) (argsL := [(.int x0)]) (rest := []) (lenOf pd_1560 rfl) rfl (by show 2 * 0 + _ ≤ _; exact Nat.le_of_eq rfl) (hb hby at_309) (fun _ _ => ⟨rfl, rfl, (by decide : 9 + 0 ≤ _), (by decide : 63 + 0 ≤ _)⟩)
   dsimp only [Pt.U, Pt.locs, Pt.cells, Pt.slots] at X1567 l1567 y1567 z1567 st1567 hQ1567
   subst l1567 y1567 z1567
   obtain ⟨r1567, rfl, Nq1567, Eq1567, hR1567⟩ := hQ1567
   have hr1567 : q3 = r1567 := ((own_p2 hpm1554 hpm1563 hR1567).elim (fun u => u.2) (fun u => absurd u.1 (fun q => hj1471.1 q.symm))).symm
   subst hr1567
   have N1568 := Fr.app Nh1565 Nq1567
   obtain ⟨Lh1569, Xh1569, Nh1569⟩ := oHd 9 63 X1567 N1568 rfl rfl
   refine ownSt st1567 ?_
   clear st1567
   show ownG p.tables e below _ (T1567.setTop (fr_law m p1 p2 q3 q4 p5 312 (.val (.int ya)) (.val (.int yb)) (.val (.ref b1371)) (.val (.ref b1387)) (.val (.int ix)) (.val (.int cn)) (.val (.long q3)) .second (.val (.long j1)) .second (.val (.long j2)) .second (.val (.int x0)) (.val (.int x1)) (.val (.int x2)) (.val (.ref b)) .unset [(.long q3)]))
   refine ownBy (A := T1567.setTop (fr_law m p1 p2 q3 q4 p5 340 (.val (.int ya)) (.val (.int yb)) (.val (.ref b1371)) (.val (.ref b1387)) (.val (.int ix)) (.val (.int cn)) (.val (.long q3)) .second (.val (.long j1)) .second (.val (.long j2)) .second (.val (.int x0)) (.val (.int x1)) (.val (.int x2)) (.val (.ref b)) (.val (.int (1 : Int32))) [(.int x1), (.ref b)])) (fun t kt => ?_) ?_
   ·refine XS.lload Xh1569.here hx rfl (hb hby at_312) rfl ?_
    refine XS.lcmp Xh1569.here hx rfl (hb hby at_314) rfl ?_
    refine XS.ifNo Xh1569.here hx rfl (hb hby at_315) rfl ((if0 _ _).trans (teq (own_lcmp_self q3)).2) ?_
    show Steps p.tables e below (T1567.setTop (fr_law m p1 p2 q3 q4 p5 318 (.val (.int ya)) (.val (.int yb)) (.val (.ref b1371)) (.val (.ref b1387)) (.val (.int ix)) (.val (.int cn)) (.val (.long q3)) .second (.val (.long j1)) .second (.val (.long j2)) .second (.val (.int x0)) (.val (.int x1)) (.val (.int x2)) (.val (.ref b)) .unset [])) t
    refine XS.iconst Xh1569.here hx rfl (hb hby at_318) ?_
    refine XS.goto Xh1569.here hx rfl (pc0 := 319) (pc' := 323) rfl (hb hby at_319) (by decide) (by decide) ?_
    refine XS.istore Xh1569.here hx rfl (hb hby at_323) rfl (l' := #[.val (.int p1), .val (.int p2), .val (.long q3), .second, .val (.long q4), .second, .val (.int p5), .val (.int p1), .val (.int ya), .val (.int yb), .val (.ref b1371), .val (.ref b1387), .val (.int ix), .val (.int cn), .val (.long q3), .second, .val (.long j1), .second, .val (.long j2), .second, .val (.int x0), .val (.int x1), .val (.int x2), .val (.ref b), .val (.int (1 : Int32))]) rfl ?_
    show Steps p.tables e below (T1567.setTop (fr_law m p1 p2 q3 q4 p5 325 (.val (.int ya)) (.val (.int yb)) (.val (.ref b1371)) (.val (.ref b1387)) (.val (.int ix)) (.val (.int cn)) (.val (.long q3)) .second (.val (.long j1)) .second (.val (.long j2)) .second (.val (.int x0)) (.val (.int x1)) (.val (.int x2)) (.val (.ref b)) (.val (.int (1 : Int32))) [])) t
    refine XS.iload Xh1569.here hx rfl (hb hby at_325) rfl ?_
    refine XS.iconst Xh1569.here hx rfl (hb hby at_327) ?_
    refine XS.icmpNo Xh1569.here hx rfl (hb hby at_328) rfl (flt hc1558).1 ?_
    show Steps p.tables e below (T1567.setTop (fr_law m p1 p2 q3 q4 p5 331 (.val (.int ya)) (.val (.int yb)) (.val (.ref b1371)) (.val (.ref b1387)) (.val (.int ix)) (.val (.int cn)) (.val (.long q3)) .second (.val (.long j1)) .second (.val (.long j2)) .second (.val (.int x0)) (.val (.int x1)) (.val (.int x2)) (.val (.ref b)) (.val (.int (1 : Int32))) [])) t
    refine XS.iload Xh1569.here hx rfl (hb hby at_331) rfl ?_
    refine XS.ifNo Xh1569.here hx rfl (hb hby at_333) rfl ((if0 _ _).trans (feq ((by decide) : ¬ ((1 : Int32) = (0 : Int32)))).1) ?_
    refine XS.aload Xh1569.here hx rfl (hb hby at_336) rfl rfl ?_
    show Steps p.tables e below (T1567.setTop (fr_law m p1 p2 q3 q4 p5 338 (.val (.int ya)) (.val (.int yb)) (.val (.ref b1371)) (.val (.ref b1387)) (.val (.int ix)) (.val (.int cn)) (.val (.long q3)) .second (.val (.long j1)) .second (.val (.long j2)) .second (.val (.int x0)) (.val (.int x1)) (.val (.int x2)) (.val (.ref b)) (.val (.int (1 : Int32))) [(.ref b)])) t
    refine XS.iload Xh1569.here hx rfl (hb hby at_338) rfl ?_
    exact kt
   obtain ⟨cq1570, kq1570, q1570a, q1570b, q1570c⟩ := isOf hZ Eq1567 E11563
   obtain ⟨vv1570, _, ⟨T1570, L1570, k1570, n1570⟩, -, X1570, ⟨Lc1570, hQ1570, l1570, y1570, z1570⟩, st1570⟩ := Xh1569.virtualBack hx (y := (⟨"com/example/vestline/vestline/HoursByPlanYear$Builder", "lineOf", "(I)J"⟩ : MethodName)) (z := (⟨"com/example/vestline/vestline/HoursByPlanYear$Builder", "lineOf", "(I)J"⟩ : MethodName)) hown (mvT hZ (Wd74 hw)) (mvT hZ (Wd75 hw)) (notFace_of_selects (args := #[]) (mvT hZ (Wd77 hw))) (mvT hZ (Wd77 hw)) (mvT hZ (Wd76 hw)) (by decide) (backOf (W := 0) (c_lof2 l Z a0 hw [] b y hh nn ky kh kn z1563_0 z1563_1 m1563_0 m1563_1 f1563 lv1563 x1 T1563.heap n0 (Nat.le_trans (Nat.le_trans (Nat.le_trans f1549 zq1550) zq1554) zq1563) E11563 Fy1563 Fh1563 Fn1563 Fs1563 Ff1563 Fl1563 Ay1563 Ah1563 An1563 hLN1563 hs1563_0 ((own_h2 hpm1554 hpm1563).mpr (Or.inr rfl))) hZ (Wd78 hw) (Wd4 hw) (by decide) (by decide)) q1570a q1570c (g := (fr_law m p1 p2 q3 q4 p5 340 (.val (.int ya)) (.val (.int yb)) (.val (.ref b1371)) (.val (.ref b1387)) (.val (.int ix)) (.val (.int cn)) (.val (.long q3)) .second (.val (.long j1)) .second (.val (.long j2)) .second (.val (.int x0)) (.val (.int x1)) (.val (.int x2)) (.val (.ref b)) (.val (.int (1 : Int32))) [(.int x1), (.ref b)])) rfl (by rw [hml]; rfl) (Steps.refl _) (argsL := [(.int x1)]) (rest := []) (lenOf pd_1560 rfl) rfl (by show 2 * 0 + _ ≤ _; exact Nat.le_of_eq rfl) (hb hby at_340) (fun _ _ => ⟨rfl, Eq1567, (by decide : 9 + 0 ≤ _), (by decide : 63 + 0 ≤ _)⟩)
   dsimp only [Pt.U, Pt.locs, Pt.cells, Pt.slots] at X1570 l1570 y1570 z1570 st1570 hQ1570
   subst l1570 y1570 z1570
   obtain ⟨r1570, rfl, Nq1570, Eq1570, hR1570⟩ := hQ1570
   have hr1570 : j1 = r1570 := ((own_p2 hpm1554 hpm1563 hR1570).elim (fun u => absurd u.1 hj1471.1) (fun u => u.2)).symm
   subst hr1570
   have N1571 := Fr.app Nh1569 Nq1570
   obtain ⟨Lh1572, Xh1572, Nh1572⟩ := oHd 9 63 X1570 N1571 rfl rfl
   refine ownSt st1570 ?_
   clear st1570
   show ownG p.tables e below _ (T1570.setTop (fr_law m p1 p2 q3 q4 p5 343 (.val (.int ya)) (.val (.int yb)) (.val (.ref b1371)) (.val (.ref b1387)) (.val (.int ix)) (.val (.int cn)) (.val (.long q3)) .second (.val (.long j1)) .second (.val (.long j2)) .second (.val (.int x0)) (.val (.int x1)) (.val (.int x2)) (.val (.ref b)) (.val (.int (1 : Int32))) [(.long j1)]))
   refine ownBy (A := T1570.setTop (fr_law m p1 p2 q3 q4 p5 389 (.val (.int ya)) (.val (.int yb)) (.val (.ref b1371)) (.val (.ref b1387)) (.val (.int ix)) (.val (.int cn)) (.val (.long q3)) .second (.val (.long j1)) .second (.val (.long j2)) .second (.val (.int x0)) (.val (.int x1)) (.val (.int x2)) (.val (.ref b)) (.val (.int (1 : Int32))) [(.int (1 : Int32))])) (fun t kt => ?_) ?_
   ·refine XS.lload Xh1572.here hx rfl (hb hby at_343) rfl ?_
    refine XS.lcmp Xh1572.here hx rfl (hb hby at_345) rfl ?_
    refine XS.ifNo Xh1572.here hx rfl (hb hby at_346) rfl ((if0 _ _).trans (teq (own_lcmp_self j1)).2) ?_
    show Steps p.tables e below (T1570.setTop (fr_law m p1 p2 q3 q4 p5 349 (.val (.int ya)) (.val (.int yb)) (.val (.ref b1371)) (.val (.ref b1387)) (.val (.int ix)) (.val (.int cn)) (.val (.long q3)) .second (.val (.long j1)) .second (.val (.long j2)) .second (.val (.int x0)) (.val (.int x1)) (.val (.int x2)) (.val (.ref b)) (.val (.int (1 : Int32))) [])) t
    refine XS.iconst Xh1572.here hx rfl (hb hby at_349) ?_
    refine XS.goto Xh1572.here hx rfl (pc0 := 350) (pc' := 354) rfl (hb hby at_350) (by decide) (by decide) ?_
    refine XS.istore Xh1572.here hx rfl (hb hby at_354) rfl (l' := #[.val (.int p1), .val (.int p2), .val (.long q3), .second, .val (.long q4), .second, .val (.int p5), .val (.int p1), .val (.int ya), .val (.int yb), .val (.ref b1371), .val (.ref b1387), .val (.int ix), .val (.int cn), .val (.long q3), .second, .val (.long j1), .second, .val (.long j2), .second, .val (.int x0), .val (.int x1), .val (.int x2), .val (.ref b), .val (.int (1 : Int32))]) rfl ?_
    show Steps p.tables e below (T1570.setTop (fr_law m p1 p2 q3 q4 p5 356 (.val (.int ya)) (.val (.int yb)) (.val (.ref b1371)) (.val (.ref b1387)) (.val (.int ix)) (.val (.int cn)) (.val (.long q3)) .second (.val (.long j1)) .second (.val (.long j2)) .second (.val (.int x0)) (.val (.int x1)) (.val (.int x2)) (.val (.ref b)) (.val (.int (1 : Int32))) [])) t
    refine XS.iload Xh1572.here hx rfl (hb hby at_356) rfl ?_
    refine XS.iconst Xh1572.here hx rfl (hb hby at_358) ?_
    refine XS.icmpYes Xh1572.here hx rfl (pc0 := 359) (pc' := 387) rfl (hb hby at_359) rfl (tlt hc1566).1 (by decide) (by decide) ?_
    show Steps p.tables e below (T1570.setTop (fr_law m p1 p2 q3 q4 p5 387 (.val (.int ya)) (.val (.int yb)) (.val (.ref b1371)) (.val (.ref b1387)) (.val (.int ix)) (.val (.int cn)) (.val (.long q3)) .second (.val (.long j1)) .second (.val (.long j2)) .second (.val (.int x0)) (.val (.int x1)) (.val (.int x2)) (.val (.ref b)) (.val (.int (1 : Int32))) [])) t
    refine XS.iload Xh1572.here hx rfl (hb hby at_387) rfl ?_
    exact kt
   refine ownRet Xh1572 Bd.notSynchronized (v := some (.int (nar .boolean (1 : Int32)))) (fun h => by rw [Bd.returns] at h; cases h) ?_ (oLe rfl) (oLe rfl) (fun fs hr => retN Xh1572 hx (t := .boolean) Bd.returns (by simp) (hb hby at_389) hr)
   show (Q_law Z p1 p2 q3 q4 p5 DV h0 n0) (some (.int (nar .boolean (1 : Int32)))) T1570.heap _
   rw [Eq1570]
   exact ⟨rfl, Nh1572⟩
  ·skip
   refine ownBy (A := T1563.setTop (fr_law m p1 p2 q3 q4 p5 302 (.val (.int ya)) (.val (.int yb)) (.val (.ref b1371)) (.val (.ref b1387)) (.val (.int ix)) (.val (.int cn)) (.val (.long q3)) .second (.val (.long j1)) .second (.val (.long j2)) .second (.val (.int x0)) (.val (.int x1)) (.val (.int x2)) (.val (.ref b)) .unset [(.long j2), .null, .null, (.int x2), (.ref b)])) (fun t kt => ?_) ?_
   ·refine XS.icmpNo Xh1565.here hx rfl (hb hby at_291) rfl (flt hc1566).1 ?_
    refine XS.aload Xh1565.here hx rfl (hb hby at_294) rfl rfl ?_
    refine XS.iload Xh1565.here hx rfl (hb hby at_296) rfl ?_
    show Steps p.tables e below (T1563.setTop (fr_law m p1 p2 q3 q4 p5 298 (.val (.int ya)) (.val (.int yb)) (.val (.ref b1371)) (.val (.ref b1387)) (.val (.int ix)) (.val (.int cn)) (.val (.long q3)) .second (.val (.long j1)) .second (.val (.long j2)) .second (.val (.int x0)) (.val (.int x1)) (.val (.int x2)) (.val (.ref b)) .unset [(.int x2), (.ref b)])) t
    refine XS.aconstNull Xh1565.here hx rfl (hb hby at_298) ?_
    refine XS.aconstNull Xh1565.here hx rfl (hb hby at_299) ?_
    refine XS.lload Xh1565.here hx rfl (hb hby at_300) rfl ?_
    exact kt
   obtain ⟨cq1573, kq1573, q1573a, q1573b, q1573c⟩ := isOf hZ rfl E11563
   obtain ⟨vv1573, _, ⟨T1573, L1573, k1573, n1573⟩, -, X1573, ⟨Lc1573, hQ1573, l1573, y1573, z1573⟩, st1573⟩ := Xh1565.virtualBack hx (y := (⟨"com/example/vestline/vestline/HoursByPlanYear$Builder", "add", "(ILjava/math/BigDecimal;Ljava/util/List;J)V"⟩ : MethodName)) (z := (⟨"com/example/vestline/vestline/HoursByPlanYear$Builder", "add", "(ILjava/math/BigDecimal;Ljava/util/List;J)V"⟩ : MethodName)) hown (mvT hZ (Wd59 hw)) (mvT hZ (Wd60 hw)) (notFace_of_selects (args := #[]) (mvT hZ (Wd62 hw))) (mvT hZ (Wd62 hw)) (mvT hZ (Wd61 hw)) (by decide) (backOf (W := 0) (c_add2 l Z a0 hw [] b y hh nn ky kh kn z1563_0 z1563_1 m1563_0 m1563_1 f1563 lv1563 x2 j2 T1563.heap n0 (Nat.le_trans (Nat.le_trans (Nat.le_trans f1549 zq1550) zq1554) zq1563) E11563 Fy1563 Fh1563 Fn1563 Fs1563 Ff1563 Fl1563 Ay1563 Ah1563 An1563 hLN1563 g1511 gy gh hs1563_0 (own_n2 hpm1554 hpm1563 hj1471.2.1 hj1471.2.2).1 (own_n2 hpm1554 hpm1563 hj1471.2.1 hj1471.2.2).2) hZ (Wd63 hw) (Wd4 hw) (by decide) (by decide)) q1573a q1573c (g := (fr_law m p1 p2 q3 q4 p5 302 (.val (.int ya)) (.val (.int yb)) (.val (.ref b1371)) (.val (.ref b1387)) (.val (.int ix)) (.val (.int cn)) (.val (.long q3)) .second (.val (.long j1)) .second (.val (.long j2)) .second (.val (.int x0)) (.val (.int x1)) (.val (.int x2)) (.val (.ref b)) .unset [(.long j2), .null, .null, (.int x2), (.ref b)])) rfl (by rw [hml]; rfl) (Steps.refl _) (argsL := [(.int x2), .null, .null, (.long j2)]) (rest := []) (lenOf pd_1555 rfl) rfl (by show 2 * 0 + _ ≤ _; exact Nat.le_of_eq rfl) (hb hby at_302) (fun _ _ => ⟨rfl, rfl, (by decide : 9 + 1 ≤ _), (by decide : 63 + 8 ≤ _)⟩)
   dsimp only [Pt.U, Pt.locs, Pt.cells, Pt.slots] at X1573 l1573 y1573 z1573 st1573 hQ1573
   subst l1573 y1573 z1573
   obtain ⟨rfl, Nq1573, zq1573, z1573_0, z1573_1, z1573_2, m1573_0, m1573_1, m1573_2, f1573, lv1573, hs1573_0, hs1573_1, hpm1573, E11573, Fy1573, Fh1573, Fn1573, Fs1573, Ff1573, Fl1573, Ay1573, Ah1573, An1573, hLN1573⟩ := hQ1573
   have N1574 := Fr.app Nh1565 Nq1573
   obtain ⟨Lh1575, Xh1575, Nh1575⟩ := oHd 10 71 X1573 N1574 rfl rfl
   refine ownSt st1573 ?_
   show ownG p.tables e below _ (T1573.setTop (fr_law m p1 p2 q3 q4 p5 305 (.val (.int ya)) (.val (.int yb)) (.val (.ref b1371)) (.val (.ref b1387)) (.val (.int ix)) (.val (.int cn)) (.val (.long q3)) .second (.val (.long j1)) .second (.val (.long j2)) .second (.val (.int x0)) (.val (.int x1)) (.val (.int x2)) (.val (.ref b)) .unset []))
   refine ownBy (A := T1573.setTop (fr_law m p1 p2 q3 q4 p5 309 (.val (.int ya)) (.val (.int yb)) (.val (.ref b1371)) (.val (.ref b1387)) (.val (.int ix)) (.val (.int cn)) (.val (.long q3)) .second (.val (.long j1)) .second (.val (.long j2)) .second (.val (.int x0)) (.val (.int x1)) (.val (.int x2)) (.val (.ref b)) .unset [(.int x0), (.ref b)])) (fun t kt => ?_) ?_
   ·refine XS.aload Xh1575.here hx rfl (hb hby at_305) rfl rfl ?_
    refine XS.iload Xh1575.here hx rfl (hb hby at_307) rfl ?_
    exact kt
   obtain ⟨cq1576, kq1576, q1576a, q1576b, q1576c⟩ := isOf hZ rfl E11573
   obtain ⟨vv1576, _, ⟨T1576, L1576, k1576, n1576⟩, -, X1576, ⟨Lc1576, hQ1576, l1576, y1576, z1576⟩, st1576⟩ := Xh1575.virtualBack hx (y := (⟨"com/example/vestline/vestline/HoursByPlanYear$Builder", "lineOf", "(I)J"⟩ : MethodName)) (z := (⟨"com/example/vestline/vestline/HoursByPlanYear$Builder", "lineOf", "(I)J"⟩ : MethodName)) hown (mvT hZ (Wd74 hw)) (mvT hZ (Wd75 hw)) (notFace_of_selects (args := #[]) (mvT hZ (Wd77 hw))) (mvT hZ (Wd77 hw)) (mvT hZ (Wd76 hw)) (by decide) (backOf (W := 0) (c_lof3 l Z a0 hw [] b y hh nn ky kh kn z1573_0 z1573_1 z1573_2 m1573_0 m1573_1 m1573_2 f1573 lv1573 x0 T1573.heap n0 (Nat.le_trans (Nat.le_trans (Nat.le_trans (Nat.le_trans f1549 zq1550) zq1554) zq1563) zq1573) E11573 Fy1573 Fh1573 Fn1573 Fs1573 Ff1573 Fl1573 Ay1573 Ah1573 An1573 hLN1573 hs1573_0 hs1573_1 ((own_h3 hpm1554 hpm1563 hpm1573).mpr (Or.inl rfl))) hZ (Wd78 hw) (Wd4 hw) (by decide) (by decide)) q1576a q1576c (g := (fr_law m p1 p2 q3 q4 p5 309 (.val (.int ya)) (.val (.int yb)) (.val (.ref b1371)) (.val (.ref b1387)) (.val (.int ix)) (.val (.int cn)) (.val (.long q3)) .second (.val (.long j1)) .second (.val (.long j2)) .second (.val (.int x0)) (.val (.int x1)) (.val (.int x2)) (.val (.ref b)) .unset [(.int x0), (.ref b)])) rfl (by rw [hml]; rfl) (Steps.refl _) (argsL := [(.int x0)]) (rest := []) (lenOf pd_1560 rfl) rfl (by show 2 * 0 + _ ≤ _; exact Nat.le_of_eq rfl) (hb hby at_309) (fun _ _ => ⟨rfl, rfl, (by decide : 10 + 0 ≤ _), (by decide : 71 + 0 ≤ _)⟩)
   dsimp only [Pt.U, Pt.locs, Pt.cells, Pt.slots] at X1576 l1576 y1576 z1576 st1576 hQ1576
   subst l1576 y1576 z1576
   obtain ⟨r1576, rfl, Nq1576, Eq1576, hR1576⟩ := hQ1576
   have hr1576 : q3 = r1576 := ((own_p3 hpm1554 hpm1563 hpm1573 hR1576).elim (fun u => u.2) (fun u => u.elim (fun u => absurd u.1 (fun q => hj1471.1 q.symm)) (fun u => absurd u.1 (fun q => hj1471.2.1 q.symm)))).symm
   subst hr1576
   have N1577 := Fr.app Nh1575 Nq1576
   obtain ⟨Lh1578, Xh1578, Nh1578⟩ := oHd 10 71 X1576 N1577 rfl rfl
   refine ownSt st1576 ?_
   clear st1576
   show ownG p.tables e below _ (T1576.setTop (fr_law m p1 p2 q3 q4 p5 312 (.val (.int ya)) (.val (.int yb)) (.val (.ref b1371)) (.val (.ref b1387)) (.val (.int ix)) (.val (.int cn)) (.val (.long q3)) .second (.val (.long j1)) .second (.val (.long j2)) .second (.val (.int x0)) (.val (.int x1)) (.val (.int x2)) (.val (.ref b)) .unset [(.long q3)]))
   refine ownBy (A := T1576.setTop (fr_law m p1 p2 q3 q4 p5 340 (.val (.int ya)) (.val (.int yb)) (.val (.ref b1371)) (.val (.ref b1387)) (.val (.int ix)) (.val (.int cn)) (.val (.long q3)) .second (.val (.long j1)) .second (.val (.long j2)) .second (.val (.int x0)) (.val (.int x1)) (.val (.int x2)) (.val (.ref b)) (.val (.int (1 : Int32))) [(.int x1), (.ref b)])) (fun t kt => ?_) ?_
   ·refine XS.lload Xh1578.here hx rfl (hb hby at_312) rfl ?_
    refine XS.lcmp Xh1578.here hx rfl (hb hby at_314) rfl ?_
    refine XS.ifNo Xh1578.here hx rfl (hb hby at_315) rfl ((if0 _ _).trans (teq (own_lcmp_self q3)).2) ?_
    show Steps p.tables e below (T1576.setTop (fr_law m p1 p2 q3 q4 p5 318 (.val (.int ya)) (.val (.int yb)) (.val (.ref b1371)) (.val (.ref b1387)) (.val (.int ix)) (.val (.int cn)) (.val (.long q3)) .second (.val (.long j1)) .second (.val (.long j2)) .second (.val (.int x0)) (.val (.int x1)) (.val (.int x2)) (.val (.ref b)) .unset [])) t
    refine XS.iconst Xh1578.here hx rfl (hb hby at_318) ?_
    refine XS.goto Xh1578.here hx rfl (pc0 := 319) (pc' := 323) rfl (hb hby at_319) (by decide) (by decide) ?_
    refine XS.istore Xh1578.here hx rfl (hb hby at_323) rfl (l' := #[.val (.int p1), .val (.int p2), .val (.long q3), .second, .val (.long q4), .second, .val (.int p5), .val (.int p1), .val (.int ya), .val (.int yb), .val (.ref b1371), .val (.ref b1387), .val (.int ix), .val (.int cn), .val (.long q3), .second, .val (.long j1), .second, .val (.long j2), .second, .val (.int x0), .val (.int x1), .val (.int x2), .val (.ref b), .val (.int (1 : Int32))]) rfl ?_
    show Steps p.tables e below (T1576.setTop (fr_law m p1 p2 q3 q4 p5 325 (.val (.int ya)) (.val (.int yb)) (.val (.ref b1371)) (.val (.ref b1387)) (.val (.int ix)) (.val (.int cn)) (.val (.long q3)) .second (.val (.long j1)) .second (.val (.long j2)) .second (.val (.int x0)) (.val (.int x1)) (.val (.int x2)) (.val (.ref b)) (.val (.int (1 : Int32))) [])) t
    refine XS.iload Xh1578.here hx rfl (hb hby at_325) rfl ?_
    refine XS.iconst Xh1578.here hx rfl (hb hby at_327) ?_
    refine XS.icmpNo Xh1578.here hx rfl (hb hby at_328) rfl (flt hc1558).1 ?_
    show Steps p.tables e below (T1576.setTop (fr_law m p1 p2 q3 q4 p5 331 (.val (.int ya)) (.val (.int yb)) (.val (.ref b1371)) (.val (.ref b1387)) (.val (.int ix)) (.val (.int cn)) (.val (.long q3)) .second (.val (.long j1)) .second (.val (.long j2)) .second (.val (.int x0)) (.val (.int x1)) (.val (.int x2)) (.val (.ref b)) (.val (.int (1 : Int32))) [])) t
    refine XS.iload Xh1578.here hx rfl (hb hby at_331) rfl ?_
    refine XS.ifNo Xh1578.here hx rfl (hb hby at_333) rfl ((if0 _ _).trans (feq ((by decide) : ¬ ((1 : Int32) = (0 : Int32)))).1) ?_
    refine XS.aload Xh1578.here hx rfl (hb hby at_336) rfl rfl ?_
    show Steps p.tables e below (T1576.setTop (fr_law m p1 p2 q3 q4 p5 338 (.val (.int ya)) (.val (.int yb)) (.val (.ref b1371)) (.val (.ref b1387)) (.val (.int ix)) (.val (.int cn)) (.val (.long q3)) .second (.val (.long j1)) .second (.val (.long j2)) .second (.val (.int x0)) (.val (.int x1)) (.val (.int x2)) (.val (.ref b)) (.val (.int (1 : Int32))) [(.ref b)])) t
    refine XS.iload Xh1578.here hx rfl (hb hby at_338) rfl ?_
    exact kt
   obtain ⟨cq1579, kq1579, q1579a, q1579b, q1579c⟩ := isOf hZ Eq1576 E11573
   obtain ⟨vv1579, _, ⟨T1579, L1579, k1579, n1579⟩, -, X1579, ⟨Lc1579, hQ1579, l1579, y1579, z1579⟩, st1579⟩ := Xh1578.virtualBack hx (y := (⟨"com/example/vestline/vestline/HoursByPlanYear$Builder", "lineOf", "(I)J"⟩ : MethodName)) (z := (⟨"com/example/vestline/vestline/HoursByPlanYear$Builder", "lineOf", "(I)J"⟩ : MethodName)) hown (mvT hZ (Wd74 hw)) (mvT hZ (Wd75 hw)) (notFace_of_selects (args := #[]) (mvT hZ (Wd77 hw))) (mvT hZ (Wd77 hw)) (mvT hZ (Wd76 hw)) (by decide) (backOf (W := 0) (c_lof3 l Z a0 hw [] b y hh nn ky kh kn z1573_0 z1573_1 z1573_2 m1573_0 m1573_1 m1573_2 f1573 lv1573 x1 T1573.heap n0 (Nat.le_trans (Nat.le_trans (Nat.le_trans (Nat.le_trans f1549 zq1550) zq1554) zq1563) zq1573) E11573 Fy1573 Fh1573 Fn1573 Fs1573 Ff1573 Fl1573 Ay1573 Ah1573 An1573 hLN1573 hs1573_0 hs1573_1 ((own_h3 hpm1554 hpm1563 hpm1573).mpr (Or.inr (Or.inl rfl)))) hZ (Wd78 hw) (Wd4 hw) (by decide) (by decide)) q1579a q1579c (g := (fr_law m p1 p2 q3 q4 p5 340 (.val (.int ya)) (.val (.int yb)) (.val (.ref b1371)) (.val (.ref b1387)) (.val (.int ix)) (.val (.int cn)) (.val (.long q3)) .second (.val (.long j1)) .second (.val (.long j2)) .second (.val (.int x0)) (.val (.int x1)) (.val (.int x2)) (.val (.ref b)) (.val (.int (1 : Int32))) [(.int x1), (.ref b)])) rfl (by rw [hml]; rfl) (Steps.refl _) (argsL := [(.int x1)]) (rest := []) (lenOf pd_1560 rfl) rfl (by show 2 * 0 + _ ≤ _; exact Nat.le_of_eq rfl) (hb hby at_340) (fun _ _ => ⟨rfl, Eq1576, (by decide : 10 + 0 ≤ _), (by decide : 71 + 0 ≤ _)⟩)
   dsimp only [Pt.U, Pt.locs, Pt.cells, Pt.slots] at X1579 l1579 y1579 z1579 st1579 hQ1579
   subst l1579 y1579 z1579
   obtain ⟨r1579, rfl, Nq1579, Eq1579, hR1579⟩ := hQ1579
   have hr1579 : j1 = r1579 := ((own_p3 hpm1554 hpm1563 hpm1573 hR1579).elim (fun u => absurd u.1 hj1471.1) (fun u => u.elim (fun u => u.2) (fun u => absurd u.1 (fun q => hj1471.2.2 q.symm)))).symm
   subst hr1579
   have N1580 := Fr.app Nh1578 Nq1579
   obtain ⟨Lh1581, Xh1581, Nh1581⟩ := oHd 10 71 X1579 N1580 rfl rfl
   refine ownSt st1579 ?_
   clear st1579
   show ownG p.tables e below _ (T1579.setTop (fr_law m p1 p2 q3 q4 p5 343 (.val (.int ya)) (.val (.int yb)) (.val (.ref b1371)) (.val (.ref b1387)) (.val (.int ix)) (.val (.int cn)) (.val (.long q3)) .second (.val (.long j1)) .second (.val (.long j2)) .second (.val (.int x0)) (.val (.int x1)) (.val (.int x2)) (.val (.ref b)) (.val (.int (1 : Int32))) [(.long j1)]))
   refine ownBy (A := T1579.setTop (fr_law m p1 p2 q3 q4 p5 371 (.val (.int ya)) (.val (.int yb)) (.val (.ref b1371)) (.val (.ref b1387)) (.val (.int ix)) (.val (.int cn)) (.val (.long q3)) .second (.val (.long j1)) .second (.val (.long j2)) .second (.val (.int x0)) (.val (.int x1)) (.val (.int x2)) (.val (.ref b)) (.val (.int (1 : Int32))) [(.int x2), (.ref b)])) (fun t kt => ?_) ?_
   ·refine XS.lload Xh1581.here hx rfl (hb hby at_343) rfl ?_
    refine XS.lcmp Xh1581.here hx rfl (hb hby at_345) rfl ?_
    refine XS.ifNo Xh1581.here hx rfl (hb hby at_346) rfl ((if0 _ _).trans (teq (own_lcmp_self j1)).2) ?_
    show Steps p.tables e below (T1579.setTop (fr_law m p1 p2 q3 q4 p5 349 (.val (.int ya)) (.val (.int yb)) (.val (.ref b1371)) (.val (.ref b1387)) (.val (.int ix)) (.val (.int cn)) (.val (.long q3)) .second (.val (.long j1)) .second (.val (.long j2)) .second (.val (.int x0)) (.val (.int x1)) (.val (.int x2)) (.val (.ref b)) (.val (.int (1 : Int32))) [])) t
    refine XS.iconst Xh1581.here hx rfl (hb hby at_349) ?_
    refine XS.goto Xh1581.here hx rfl (pc0 := 350) (pc' := 354) rfl (hb hby at_350) (by decide) (by decide) ?_
    refine XS.istore Xh1581.here hx rfl (hb hby at_354) rfl (l' := #[.val (.int p1), .val (.int p2), .val (.long q3), .second, .val (.long q4), .second, .val (.int p5), .val (.int p1), .val (.int ya), .val (.int yb), .val (.ref b1371), .val (.ref b1387), .val (.int ix), .val (.int cn), .val (.long q3), .second, .val (.long j1), .second, .val (.long j2), .second, .val (.int x0), .val (.int x1), .val (.int x2), .val (.ref b), .val (.int (1 : Int32))]) rfl ?_
    show Steps p.tables e below (T1579.setTop (fr_law m p1 p2 q3 q4 p5 356 (.val (.int ya)) (.val (.int yb)) (.val (.ref b1371)) (.val (.ref b1387)) (.val (.int ix)) (.val (.int cn)) (.val (.long q3)) .second (.val (.long j1)) .second (.val (.long j2)) .second (.val (.int x0)) (.val (.int x1)) (.val (.int x2)) (.val (.ref b)) (.val (.int (1 : Int32))) [])) t
    refine XS.iload Xh1581.here hx rfl (hb hby at_356) rfl ?_
    refine XS.iconst Xh1581.here hx rfl (hb hby at_358) ?_
    refine XS.icmpNo Xh1581.here hx rfl (hb hby at_359) rfl (flt hc1566).1 ?_
    show Steps p.tables e below (T1579.setTop (fr_law m p1 p2 q3 q4 p5 362 (.val (.int ya)) (.val (.int yb)) (.val (.ref b1371)) (.val (.ref b1387)) (.val (.int ix)) (.val (.int cn)) (.val (.long q3)) .second (.val (.long j1)) .second (.val (.long j2)) .second (.val (.int x0)) (.val (.int x1)) (.val (.int x2)) (.val (.ref b)) (.val (.int (1 : Int32))) [])) t
    refine XS.iload Xh1581.here hx rfl (hb hby at_362) rfl ?_
    refine XS.ifNo Xh1581.here hx rfl (hb hby at_364) rfl ((if0 _ _).trans (feq ((by decide) : ¬ ((1 : Int32) = (0 : Int32)))).1) ?_
    refine XS.aload Xh1581.here hx rfl (hb hby at_367) rfl rfl ?_
    show Steps p.tables e below (T1579.setTop (fr_law m p1 p2 q3 q4 p5 369 (.val (.int ya)) (.val (.int yb)) (.val (.ref b1371)) (.val (.ref b1387)) (.val (.int ix)) (.val (.int cn)) (.val (.long q3)) .second (.val (.long j1)) .second (.val (.long j2)) .second (.val (.int x0)) (.val (.int x1)) (.val (.int x2)) (.val (.ref b)) (.val (.int (1 : Int32))) [(.ref b)])) t
    refine XS.iload Xh1581.here hx rfl (hb hby at_369) rfl ?_
    exact kt
   obtain ⟨cq1582, kq1582, q1582a, q1582b, q1582c⟩ := isOf hZ Eq1579 E11573
   obtain ⟨vv1582, _, ⟨T1582, L1582, k1582, n1582⟩, -, X1582, ⟨Lc1582, hQ1582, l1582, y1582, z1582⟩, st1582⟩ := Xh1581.virtualBack hx (y := (⟨"com/example/vestline/vestline/HoursByPlanYear$Builder", "lineOf", "(I)J"⟩ : MethodName)) (z := (⟨"com/example/vestline/vestline/HoursByPlanYear$Builder", "lineOf", "(I)J"⟩ : MethodName)) hown (mvT hZ (Wd74 hw)) (mvT hZ (Wd75 hw)) (notFace_of_selects (args := #[]) (mvT hZ (Wd77 hw))) (mvT hZ (Wd77 hw)) (mvT hZ (Wd76 hw)) (by decide) (backOf (W := 0) (c_lof3 l Z a0 hw [] b y hh nn ky kh kn z1573_0 z1573_1 z1573_2 m1573_0 m1573_1 m1573_2 f1573 lv1573 x2 T1573.heap n0 (Nat.le_trans (Nat.le_trans (Nat.le_trans (Nat.le_trans f1549 zq1550) zq1554) zq1563) zq1573) E11573 Fy1573 Fh1573 Fn1573 Fs1573 Ff1573 Fl1573 Ay1573 Ah1573 An1573 hLN1573 hs1573_0 hs1573_1 ((own_h3 hpm1554 hpm1563 hpm1573).mpr (Or.inr (Or.inr rfl)))) hZ (Wd78 hw) (Wd4 hw) (by decide) (by decide)) q1582a q1582c (g := (fr_law m p1 p2 q3 q4 p5 371 (.val (.int ya)) (.val (.int yb)) (.val (.ref b1371)) (.val (.ref b1387)) (.val (.int ix)) (.val (.int cn)) (.val (.long q3)) .second (.val (.long j1)) .second (.val (.long j2)) .second (.val (.int x0)) (.val (.int x1)) (.val (.int x2)) (.val (.ref b)) (.val (.int (1 : Int32))) [(.int x2), (.ref b)])) rfl (by rw [hml]; rfl) (Steps.refl _) (argsL := [(.int x2)]) (rest := []) (lenOf pd_1560 rfl) rfl (by show 2 * 0 + _ ≤ _; exact Nat.le_of_eq rfl) (hb hby at_371) (fun _ _ => ⟨rfl, Eq1579, (by decide : 10 + 0 ≤ _), (by decide : 71 + 0 ≤ _)⟩)
   dsimp only [Pt.U, Pt.locs, Pt.cells, Pt.slots] at X1582 l1582 y1582 z1582 st1582 hQ1582
   subst l1582 y1582 z1582
   obtain ⟨r1582, rfl, Nq1582, Eq1582, hR1582⟩ := hQ1582
   have hr1582 : j2 = r1582 := ((own_p3 hpm1554 hpm1563 hpm1573 hR1582).elim (fun u => absurd u.1 hj1471.2.1) (fun u => u.elim (fun u => absurd u.1 hj1471.2.2) (fun u => u.2))).symm
   subst hr1582
   have N1583 := Fr.app Nh1581 Nq1582
   obtain ⟨Lh1584, Xh1584, Nh1584⟩ := oHd 10 71 X1582 N1583 rfl rfl
   refine ownSt st1582 ?_
   clear st1582
   show ownG p.tables e below _ (T1582.setTop (fr_law m p1 p2 q3 q4 p5 374 (.val (.int ya)) (.val (.int yb)) (.val (.ref b1371)) (.val (.ref b1387)) (.val (.int ix)) (.val (.int cn)) (.val (.long q3)) .second (.val (.long j1)) .second (.val (.long j2)) .second (.val (.int x0)) (.val (.int x1)) (.val (.int x2)) (.val (.ref b)) (.val (.int (1 : Int32))) [(.long j2)]))
   refine ownBy (A := T1582.setTop (fr_law m p1 p2 q3 q4 p5 389 (.val (.int ya)) (.val (.int yb)) (.val (.ref b1371)) (.val (.ref b1387)) (.val (.int ix)) (.val (.int cn)) (.val (.long q3)) .second (.val (.long j1)) .second (.val (.long j2)) .second (.val (.int x0)) (.val (.int x1)) (.val (.int x2)) (.val (.ref b)) (.val (.int (1 : Int32))) [(.int (1 : Int32))])) (fun t kt => ?_) ?_
   ·refine XS.lload Xh1584.here hx rfl (hb hby at_374) rfl ?_
    refine XS.lcmp Xh1584.here hx rfl (hb hby at_376) rfl ?_
    refine XS.ifNo Xh1584.here hx rfl (hb hby at_377) rfl ((if0 _ _).trans (teq (own_lcmp_self j2)).2) ?_
    show Steps p.tables e below (T1582.setTop (fr_law m p1 p2 q3 q4 p5 380 (.val (.int ya)) (.val (.int yb)) (.val (.ref b1371)) (.val (.ref b1387)) (.val (.int ix)) (.val (.int cn)) (.val (.long q3)) .second (.val (.long j1)) .second (.val (.long j2)) .second (.val (.int x0)) (.val (.int x1)) (.val (.int x2)) (.val (.ref b)) (.val (.int (1 : Int32))) [])) t
    refine XS.iconst Xh1584.here hx rfl (hb hby at_380) ?_
    refine XS.goto Xh1584.here hx rfl (pc0 := 381) (pc' := 385) rfl (hb hby at_381) (by decide) (by decide) ?_
    refine XS.istore Xh1584.here hx rfl (hb hby at_385) rfl (l' := #[.val (.int p1), .val (.int p2), .val (.long q3), .second, .val (.long q4), .second, .val (.int p5), .val (.int p1), .val (.int ya), .val (.int yb), .val (.ref b1371), .val (.ref b1387), .val (.int ix), .val (.int cn), .val (.long q3), .second, .val (.long j1), .second, .val (.long j2), .second, .val (.int x0), .val (.int x1), .val (.int x2), .val (.ref b), .val (.int (1 : Int32))]) rfl ?_
    show Steps p.tables e below (T1582.setTop (fr_law m p1 p2 q3 q4 p5 387 (.val (.int ya)) (.val (.int yb)) (.val (.ref b1371)) (.val (.ref b1387)) (.val (.int ix)) (.val (.int cn)) (.val (.long q3)) .second (.val (.long j1)) .second (.val (.long j2)) .second (.val (.int x0)) (.val (.int x1)) (.val (.int x2)) (.val (.ref b)) (.val (.int (1 : Int32))) [])) t
    refine XS.iload Xh1584.here hx rfl (hb hby at_387) rfl ?_
    exact kt
   refine ownRet Xh1584 Bd.notSynchronized (v := some (.int (nar .boolean (1 : Int32)))) (fun h => by rw [Bd.returns] at h; cases h) ?_ (oLe rfl) (oLe rfl) (fun fs hr => retN Xh1584 hx (t := .boolean) Bd.returns (by simp) (hb hby at_389) hr)
   show (Q_law Z p1 p2 q3 q4 p5 DV h0 n0) (some (.int (nar .boolean (1 : Int32)))) T1582.heap _
   rw [Eq1582]
   exact ⟨rfl, Nh1584⟩
set_option maxRecDepth 65536 in
set_option maxHeartbeats 40000000 in
theorem comes_1 {Post : Tables → Env → Array Value → State → Outcome → State → Prop} (hpost : ∀ tb e args s v u, (limb_1_1.after args s (.returned v) u = true ∧ limb_1_2.after args s (.returned v) u = true ∧ True) → FrameEnd s (.returned v) u (Jvm.fieldLocs frame_1_writes args s ++ Jvm.arrayLocs frame_1_arrays args s ++ Jvm.staticLocs frame_1_statics s) 24 192 → Post tb e args s (.returned v) u) :
  ArmFor flags0 classFile x code maxLocals ret World_1 tables_1 room_1 Calls_1 rest_1 Pre_1 Post := by
 intro l hfl _ _ p e ha hc hk s m args below hf hA hF happ hP
 obtain ⟨hcalls, hrest, hpre⟩ := hP
 obtain ⟨-, -, -, hnamed, -, -, -, hat⟩ := (Spec.applies_iff hf).mp happ
 obtain ⟨hg, hn⟩ := and_e (Cond.before_iff.mp (show (Jvm.Cond.and given_1 narrow_1).before args s = true from hpre))
 obtain ⟨g1585, g1586⟩ := and_e hg
 obtain ⟨g1587, g1588⟩ := and_e g1586
 obtain ⟨g1589, g1590⟩ := and_e g1588
 obtain ⟨g1591, g1592⟩ := and_e g1590
 obtain ⟨g1593, g1594⟩ := and_e g1592
 obtain ⟨w0, w1, w2, w3, w4, rfl⟩ : ∃ w0 w1 w2 w3 w4 : Value, args = #[w0, w1, w2, w3, w4] := by
  have hs : args.size = 5 := by simpa [Cond.value, given_1] using g1585
  obtain ⟨L⟩ := args
  match L, hs with
  | [w0, w1, w2, w3, w4], _ => exact ⟨w0, w1, w2, w3, w4, rfl⟩
 have hw := fun d (hd : d ∈ tables_1) => atoms_spec (ws := Jvm.Cond.code x code maxLocals ret :: tables_1) hat d (List.mem_cons_of_mem _ hd)
 have hfit : Fit s := fun {y c} hc i hi => by
  obtain ⟨ha, rfl⟩ := Array.getElem?_eq_some_iff.mp hc
  have q := List.all_eq_true.mp ((Array.all_eq_true_iff_forall_mem.mp hF) _ (Array.getElem_mem ha)) i (List.mem_range.mpr hi)
  simpa [Array.getElem?_eq_getElem hi] using q
 obtain ⟨hsets, hown0⟩ := atoms_of _ (rest_1_c_eq ▸ (show rest_1_c.before _ s = true from hrest))
 have hr0 := Cond.before_iff.mp hown0
 obtain ⟨i0, ei0⟩ := is_v g1587
 obtain rfl : w0 = (.int i0) := Option.some.inj ei0
 obtain ⟨i1, ei1⟩ := is_v g1589
 obtain rfl : w1 = (.int i1) := Option.some.inj ei1
 obtain ⟨i2, ei2⟩ := isL_v g1591
 obtain rfl : w2 = (.long i2) := Option.some.inj ei2
 obtain ⟨i3, ei3⟩ := isL_v g1593
 obtain rfl : w3 = (.long i3) := Option.some.inj ei3
 obtain ⟨i4, ei4⟩ := is_v g1594
 obtain rfl : w4 = (.int i4) := Option.some.inj ei4
 have xD := Cond.before_iff.mp (hsets _ (List.mem_of_getElem? (i := 7) rfl))
 obtain ⟨dv, eD⟩ := exa_v xD
 have SD := Sta.start eD (Or.inr ⟨(Wd7 hw), (hsets _ (List.mem_of_getElem? (i := 2) rfl))⟩)
 obtain ⟨n, o, h1, h2, h3, _, L, rfl, ⟨rfl, N⟩, hq⟩ := c_law l s _ hw tables_1 i0 i1 i2 i3 i4 (.ref dv) s.heap s.heap.size (Nat.le_refl _) SD rfl (Old.start s) p e ha hc hk s m _ below hf ((Spec.applies_iff_loose hf).mp happ).1 ⟨rfl, State.Warmed39.refl s, rfl⟩ trivial
 refine ⟨n, _, h1, h2, h3, hpost _ _ _ _ _ _ ⟨Cond.after_iff.mpr rfl, Cond.after_iff.mpr (eq_i res_at (Term.int_eval (1)) rfl), trivial⟩ ⟨hq.1, hq.2.1, (hq.2.2.sift fun y hy => Or.inr (N y hy)).mono (by decide) (by decide)⟩⟩
theorem main_1_1 : Claimed_1_1 := comes_1 fun _ _ _ _ _ _ h hF => ⟨h.1, hF⟩
theorem main_1_2 : Claimed_1_2 := comes_1 fun _ _ _ _ _ _ h hF => ⟨h.2.1, hF⟩
end Jvm.Pilot.@@N@@
namespace Jvm.Pilot.@@N@@
open Jvm Jvm.ClassFile Sem Op Lib Jvm.Free Jvm.Stand Jvm.Pilot.@@N@@.Jvm.D
/-! MADE BY PROGRAM (witnessworld.py) out of the Statement's table words and the real class files: 26 classes; the members and pool entries that the words name. The judged class is class 1, her method 1. -/
namespace start1
open Jvm.ClassFile
def u (s : String) : CpInfo := .utf8 (stringToUtf16 s)
/-- a pool by its gaps: so many unusable entries, then the entry; so many at the end -/
def gap : Nat → List CpInfo → List CpInfo
  | 0, r => r
  | n + 1, r => .unusable :: gap n r
def poolList (es : List (Nat × CpInfo)) (last : Nat) : List CpInfo := es.foldr (fun e r => gap e.1 (e.2 :: r)) (gap last [])
def pool (es : List (Nat × CpInfo)) (last : Nat) : Array CpInfo := ⟨poolList es last⟩
def fileOf (pool : Array CpInfo) (this : Nat) (attrs : Array Attribute := #[]) (ms : Array MethodInfo := #[]) (fl : Nat := 33) (sup : Nat := 0) (ifs : Array Nat := #[]) (fds : Array FieldInfo := #[]) : ClassFile where
  minorVersion := 0
  majorVersion := 65
  constantPool := pool
  accessFlags := fl
  thisClass := this
  superClass := sup
  interfaces := ifs
  fields := fds
  methods := ms
  attributes := attrs
def plain (name : String) (sup : Option ClassId) : Class where
  name := name
  kind := .ordinary
  loader := none
  accessFlags := 33
  super := sup
  interfaces := #[]
  cf := none
  fields := #[]
  methods := #[]
  instanceTypes := #[]
  staticTypes := #[]
  resolved := #[]
  callSites := []
  init := .initialized
  statics := none
  mirror := none

def pool0 : Array CpInfo := pool [(5, u "<init>"), (0, u "()V"), (1, .class_ 10), (1, u "java/lang/Object")] 113

def k0c0 : Code := { maxStack := 0, maxLocals := 1, code := object_method_1_code, exceptionTable := #[], attributes := #[] }
def k0m0 : Method := { name := "<init>", desc := "()V", sig := { parameters := [], returnType := none }, accessFlags := 1, code := some k0c0 }
/-- java/lang/Object -/
def k0 : Class := { plain "java/lang/Object" none with
  accessFlags := 33
  interfaces := #[]
  cf := some (fileOf pool0 8 #[] #[{ accessFlags := 1, nameIndex := 5, descriptorIndex := 6, attributes := #[] }] 33 0 #[] #[])
  fields := #[]
  methods := #[k0m0]
  instanceTypes := #[]
  staticTypes := #[]
  resolved := Array.replicate 124 none
  statics := none }

def pool1 : Array CpInfo := pool [(2, .class_ 4), (0, .nameAndType 5 6), (0, u "java/lang/Object"), (0, u "<init>"), (0, u "()V"), (0, .long 18446744073709551615), (1, .long 2), (1, .class_ 12), (0, u "com/example/vestline/vestline/HoursByPlanYear$Builder"), (0, .class_ 14), (0, u "java/util/ArrayList"), (0, .methodref 13 3), (0, .methodref 11 17), (0, .nameAndType 5 18), (0, u "(Ljava/util/List;)V"), (0, .methodref 11 20), (0, .nameAndType 21 22), (0, u "add"), (0, u "(ILjava/math/BigDecimal;Ljava/util/List;J)V"), (0, .methodref 11 24), (0, .nameAndType 25 26), (0, u "lineOf"), (0, u "(I)J"), (0, .class_ 28), (0, u "com/example/vestline/vestline/BuilderLineOfPinLaw"), (2, u "law"), (0, u "(IIJJI)Z")] 9

def k1m0 : Method := { name := "<init>", desc := "()V", sig := { parameters := [], returnType := none }, accessFlags := 1, code := none }
def k1c1 : Code := { maxStack := 6, maxLocals := 25, code := code, exceptionTable := #[], attributes := #[] }
def k1m1 : Method := { name := "law", desc := "(IIJJI)Z", sig := { parameters := [.int, .int, .long, .long, .int], returnType := some .boolean }, accessFlags := 9, code := some k1c1 }
/-- com/example/vestline/vestline/BuilderLineOfPinLaw -/
def k1 : Class := { plain "com/example/vestline/vestline/BuilderLineOfPinLaw" (some 0) with
  accessFlags := 49
  interfaces := #[]
  cf := some (fileOf pool1 27 #[] #[{ accessFlags := 1, nameIndex := 5, descriptorIndex := 6, attributes := #[] }, { accessFlags := 9, nameIndex := 31, descriptorIndex := 32, attributes := #[] }] 49 2 #[] #[])
  fields := #[]
  methods := #[k1m0, k1m1]
  instanceTypes := #[]
  staticTypes := #[]
  resolved := Array.replicate 42 none
  statics := none }

def pool2 : Array CpInfo := pool [(1, .class_ 2), (0, u "com/example/vestline/vestline/HoursByPlanYear"), (0, .methodref 4 5), (0, .class_ 6), (0, .nameAndType 7 8), (0, u "java/lang/Object"), (0, u "<init>"), (0, u "()V"), (0, .class_ 10), (0, u "com/example/vestline/vestline/HoursByPlanYear$Builder"), (0, .fieldref 9 12), (0, .nameAndType 13 14), (0, u "years"), (0, u "[I"), (0, .class_ 16), (0, u "java/math/BigDecimal"), (0, .fieldref 9 18), (0, .nameAndType 19 20), (0, u "hours"), (0, u "[Ljava/math/BigDecimal;"), (0, .fieldref 9 22), (0, .nameAndType 23 24), (0, u "columns"), (0, u "Ljava/util/List;"), (0, .interfaceMethodref 26 27), (0, .class_ 28), (0, .nameAndType 29 30), (0, u "java/util/List"), (0, u "size"), (0, u "()I"), (0, .class_ 32), (0, u "[[J"), (0, .fieldref 9 34), (0, .nameAndType 35 32), (0, u "numbers"), (0, .fieldref 9 37), (0, .nameAndType 29 38), (0, u "I"), (0, .methodref 40 41), (0, .class_ 42), (0, .nameAndType 43 44), (0, u "java/util/Arrays"), (0, u "binarySearch"), (0, u "([IIII)I"), (9, .fieldref 9 55), (0, .nameAndType 56 57), (0, u "firstLine"), (0, u "J"), (0, .fieldref 9 59), (0, .nameAndType 60 61), (0, u "lines"), (0, u "[J"), (11, .methodref 74 75), (0, .class_ 76), (0, .nameAndType 77 78), (0, u "java/lang/System"), (0, u "arraycopy"), (0, u "(Ljava/lang/Object;ILjava/lang/Object;II)V"), (17, u "FIRST_CAPACITY"), (4, u "(Ljava/util/List;)V"), (6, u "add"), (0, u "(ILjava/math/BigDecimal;Ljava/util/List;J)V"), (1, u "lineOf"), (0, u "(I)J")] 23

def k2c0 : Code := { maxStack := 3, maxLocals := 2, code := prog_14_method_1_code, exceptionTable := #[], attributes := #[] }
def k2m0 : Method := { name := "<init>", desc := "(Ljava/util/List;)V", sig := { parameters := [(.object "java/util/List")], returnType := none }, accessFlags := 0, code := some k2c0 }
def k2c1 : Code := { maxStack := 6, maxLocals := 9, code := prog_14_method_3_code, exceptionTable := #[], attributes := #[] }
def k2m1 : Method := { name := "add", desc := "(ILjava/math/BigDecimal;Ljava/util/List;J)V", sig := { parameters := [.int, (.object "java/math/BigDecimal"), (.object "java/util/List"), .long], returnType := none }, accessFlags := 0, code := some k2c1 }
def k2c2 : Code := { maxStack := 4, maxLocals := 5, code := prog_14_method_4_code, exceptionTable := #[], attributes := #[] }
def k2m2 : Method := { name := "lineOf", desc := "(I)J", sig := { parameters := [.int], returnType := some .long }, accessFlags := 0, code := some k2c2 }
/-- com/example/vestline/vestline/HoursByPlanYear$Builder -/
def k2 : Class := { plain "com/example/vestline/vestline/HoursByPlanYear$Builder" (some 0) with
  accessFlags := 48
  interfaces := #[]
  cf := some (fileOf pool2 9 #[.nestHost 1] #[{ accessFlags := 0, nameIndex := 7, descriptorIndex := 101, attributes := #[] }, { accessFlags := 0, nameIndex := 108, descriptorIndex := 109, attributes := #[] }, { accessFlags := 0, nameIndex := 111, descriptorIndex := 112, attributes := #[] }] 48 4 #[] #[{ accessFlags := 26, nameIndex := 96, descriptorIndex := 38, attributes := #[] }, { accessFlags := 18, nameIndex := 23, descriptorIndex := 24, attributes := #[] }, { accessFlags := 2, nameIndex := 13, descriptorIndex := 14, attributes := #[] }, { accessFlags := 2, nameIndex := 19, descriptorIndex := 20, attributes := #[] }, { accessFlags := 18, nameIndex := 35, descriptorIndex := 32, attributes := #[] }, { accessFlags := 2, nameIndex := 29, descriptorIndex := 38, attributes := #[] }, { accessFlags := 2, nameIndex := 56, descriptorIndex := 57, attributes := #[] }, { accessFlags := 2, nameIndex := 60, descriptorIndex := 61, attributes := #[] }])
  fields := #[{ name := "FIRST_CAPACITY", type := .int, accessFlags := 26, slot := 0, constantValue := 0 }, { name := "columns", type := (.object "java/util/List"), accessFlags := 18, slot := 0, constantValue := 0 }, { name := "years", type := (.array .int), accessFlags := 2, slot := 1, constantValue := 0 }, { name := "hours", type := (.array (.object "java/math/BigDecimal")), accessFlags := 2, slot := 2, constantValue := 0 }, { name := "numbers", type := (.array (.array .long)), accessFlags := 18, slot := 3, constantValue := 0 }, { name := "size", type := .int, accessFlags := 2, slot := 4, constantValue := 0 }, { name := "firstLine", type := .long, accessFlags := 2, slot := 5, constantValue := 0 }, { name := "lines", type := (.array .long), accessFlags := 2, slot := 6, constantValue := 0 }]
  methods := #[k2m0, k2m1, k2m2]
  instanceTypes := #[(.object "java/util/List"), (.array .int), (.array (.object "java/math/BigDecimal")), (.array (.array .long)), .int, .long, (.array .long)]
  staticTypes := #[.int]
  resolved := Array.replicate 136 none
  statics := none }

def pool3 : Array CpInfo := pool [(8, .class_ 10), (1, u "java/lang/Iterable"), (24, .class_ 36), (0, u "java/lang/Object")] 25

/-- java/lang/Iterable -/
def k3 : Class := { plain "java/lang/Iterable" (some 0) with
  accessFlags := 1537
  interfaces := #[]
  cf := some (fileOf pool3 8 #[] #[] 1537 35 #[] #[])
  fields := #[]
  methods := #[]
  instanceTypes := #[]
  staticTypes := #[]
  resolved := Array.replicate 62 none
  statics := none }

def pool4 : Array CpInfo := pool [(10, .class_ 12), (1, u "java/util/Collection"), (47, .class_ 61), (0, u "java/lang/Object"), (0, .class_ 63), (0, u "java/lang/Iterable")] 51

/-- java/util/Collection -/
def k4 : Class := { plain "java/util/Collection" (some 0) with
  accessFlags := 1537
  interfaces := #[3]
  cf := some (fileOf pool4 10 #[] #[] 1537 60 #[62] #[])
  fields := #[]
  methods := #[]
  instanceTypes := #[]
  staticTypes := #[]
  resolved := Array.replicate 115 none
  statics := none }

def pool5 : Array CpInfo := pool [(1, .methodref 2 3), (0, .class_ 4), (0, .nameAndType 5 6), (0, u "java/lang/Object"), (0, u "<init>"), (0, u "()V"), (1, .class_ 10), (1, u "java/util/AbstractCollection"), (66, .class_ 78), (0, u "java/util/Collection")] 81

def k5c0 : Code := { maxStack := 1, maxLocals := 1, code := jdk_22_method_1_code, exceptionTable := #[], attributes := #[] }
def k5m0 : Method := { name := "<init>", desc := "()V", sig := { parameters := [], returnType := none }, accessFlags := 4, code := some k5c0 }
/-- java/util/AbstractCollection -/
def k5 : Class := { plain "java/util/AbstractCollection" (some 0) with
  accessFlags := 1057
  interfaces := #[4]
  cf := some (fileOf pool5 8 #[] #[{ accessFlags := 4, nameIndex := 5, descriptorIndex := 6, attributes := #[] }] 1057 2 #[77] #[])
  fields := #[]
  methods := #[k5m0]
  instanceTypes := #[]
  staticTypes := #[]
  resolved := Array.replicate 160 none
  statics := none }

def pool6 : Array CpInfo := pool [(8, .class_ 10), (1, u "java/util/SequencedCollection"), (15, .class_ 27), (0, u "java/lang/Object"), (0, .class_ 29), (0, u "java/util/Collection")] 27

/-- java/util/SequencedCollection -/
def k6 : Class := { plain "java/util/SequencedCollection" (some 0) with
  accessFlags := 1537
  interfaces := #[4]
  cf := some (fileOf pool6 8 #[] #[] 1537 26 #[28] #[])
  fields := #[]
  methods := #[]
  instanceTypes := #[]
  staticTypes := #[]
  resolved := Array.replicate 57 none
  statics := none }

def pool7 : Array CpInfo := pool [(8, .class_ 10), (1, u "java/util/List"), (68, u "size"), (0, u "()I"), (22, .class_ 104), (0, u "java/lang/Object"), (15, .class_ 121), (0, u "java/util/SequencedCollection")] 129

def k7m0 : Method := { name := "size", desc := "()I", sig := { parameters := [], returnType := some .int }, accessFlags := 1025, code := none }
/-- java/util/List -/
def k7 : Class := { plain "java/util/List" (some 0) with
  accessFlags := 1537
  interfaces := #[6]
  cf := some (fileOf pool7 8 #[] #[{ accessFlags := 1025, nameIndex := 79, descriptorIndex := 80, attributes := #[] }] 1537 103 #[120] #[])
  fields := #[]
  methods := #[k7m0]
  instanceTypes := #[]
  staticTypes := #[]
  resolved := Array.replicate 251 none
  statics := none }

def pool8 : Array CpInfo := pool [(1, .methodref 2 3), (0, .class_ 4), (0, .nameAndType 5 6), (0, u "java/util/AbstractCollection"), (0, u "<init>"), (0, u "()V"), (0, .fieldref 8 9), (0, .class_ 10), (0, .nameAndType 11 12), (0, u "java/util/AbstractList"), (0, u "modCount"), (0, u "I"), (64, .class_ 78), (0, u "java/util/AbstractList$Itr"), (3, .class_ 83), (0, u "java/util/AbstractList$ListItr"), (9, .class_ 94), (0, u "java/util/AbstractList$RandomAccessSubList"), (3, .class_ 99), (0, u "java/util/AbstractList$SubList"), (33, .class_ 134), (0, u "java/util/List"), (73, .class_ 209), (0, u "java/util/AbstractList$SubList$1"), (0, .class_ 211), (0, u "java/util/AbstractList$RandomAccessSpliterator")] 6

def k8c0 : Code := { maxStack := 2, maxLocals := 1, code := jdk_39_method_1_code, exceptionTable := #[], attributes := #[] }
def k8m0 : Method := { name := "<init>", desc := "()V", sig := { parameters := [], returnType := none }, accessFlags := 4, code := some k8c0 }
/-- java/util/AbstractList -/
def k8 : Class := { plain "java/util/AbstractList" (some 5) with
  accessFlags := 1057
  interfaces := #[7]
  cf := some (fileOf pool8 8 #[.nestMembers #[93, 98, 208, 210, 82, 77]] #[{ accessFlags := 4, nameIndex := 5, descriptorIndex := 6, attributes := #[] }] 1057 2 #[133] #[{ accessFlags := 132, nameIndex := 11, descriptorIndex := 12, attributes := #[] }])
  fields := #[{ name := "modCount", type := .int, accessFlags := 132, slot := 0, constantValue := 0 }]
  methods := #[k8m0]
  instanceTypes := #[.int]
  staticTypes := #[]
  resolved := Array.replicate 218 none
  statics := none }

def pool9 : Array CpInfo := pool [(1, .class_ 2), (0, u "java/util/RandomAccess"), (0, .class_ 4), (0, u "java/lang/Object")] 2

/-- java/util/RandomAccess -/
def k9 : Class := { plain "java/util/RandomAccess" (some 0) with
  accessFlags := 1537
  interfaces := #[]
  cf := some (fileOf pool9 1 #[] #[] 1537 3 #[] #[])
  fields := #[]
  methods := #[]
  instanceTypes := #[]
  staticTypes := #[]
  resolved := Array.replicate 7 none
  statics := none }

def pool10 : Array CpInfo := pool [(1, .class_ 2), (0, u "java/lang/Cloneable"), (0, .class_ 4), (0, u "java/lang/Object")] 2

/-- java/lang/Cloneable -/
def k10 : Class := { plain "java/lang/Cloneable" (some 0) with
  accessFlags := 1537
  interfaces := #[]
  cf := some (fileOf pool10 1 #[] #[] 1537 3 #[] #[])
  fields := #[]
  methods := #[]
  instanceTypes := #[]
  staticTypes := #[]
  resolved := Array.replicate 7 none
  statics := none }

def pool11 : Array CpInfo := pool [(1, .class_ 2), (0, u "java/io/Serializable"), (0, .class_ 4), (0, u "java/lang/Object")] 2

/-- java/io/Serializable -/
def k11 : Class := { plain "java/io/Serializable" (some 0) with
  accessFlags := 1537
  interfaces := #[]
  cf := some (fileOf pool11 1 #[] #[] 1537 3 #[] #[])
  fields := #[]
  methods := #[]
  instanceTypes := #[]
  staticTypes := #[]
  resolved := Array.replicate 7 none
  statics := none }

def pool12 : Array CpInfo := pool [(1, .methodref 2 3), (0, .class_ 4), (0, .nameAndType 5 6), (0, u "java/util/AbstractList"), (0, u "<init>"), (0, u "()V"), (2, .fieldref 10 11), (0, .class_ 12), (0, .nameAndType 13 14), (0, u "java/util/ArrayList"), (0, u "elementData"), (0, u "[Ljava/lang/Object;"), (2, u "EMPTY_ELEMENTDATA"), (21, .fieldref 10 40), (0, .nameAndType 41 14), (0, u "DEFAULTCAPACITY_EMPTY_ELEMENTDATA"), (6, .fieldref 10 49), (0, .nameAndType 50 51), (0, u "size"), (0, u "I"), (96, .class_ 149), (0, u "java/util/List"), (36, u "()I"), (75, .class_ 263), (0, u "java/util/ArrayList$ListItr"), (3, .class_ 268), (0, u "java/util/ArrayList$Itr"), (7, .class_ 277), (0, u "java/util/ArrayList$SubList"), (12, .class_ 291), (0, u "java/util/ArrayList$ArrayListSpliterator"), (37, .class_ 330), (0, u "java/util/RandomAccess"), (0, .class_ 332), (0, u "java/lang/Cloneable"), (0, .class_ 334), (0, u "java/io/Serializable"), (0, u "serialVersionUID"), (0, u "J"), (3, u "DEFAULT_CAPACITY"), (159, .class_ 501), (0, u "java/util/ArrayList$SubList$2"), (0, .class_ 503), (0, u "java/util/ArrayList$SubList$1")] 5

def k12c0 : Code := { maxStack := 2, maxLocals := 1, code := jdk_38_method_2_code, exceptionTable := #[], attributes := #[] }
def k12m0 : Method := { name := "<init>", desc := "()V", sig := { parameters := [], returnType := none }, accessFlags := 1, code := some k12c0 }
def k12c1 : Code := { maxStack := 1, maxLocals := 1, code := jdk_38_method_8_code, exceptionTable := #[], attributes := #[] }
def k12m1 : Method := { name := "size", desc := "()I", sig := { parameters := [], returnType := some .int }, accessFlags := 1, code := some k12c1 }
/-- java/util/ArrayList -/
def k12 : Class := { plain "java/util/ArrayList" (some 8) with
  accessFlags := 33
  interfaces := #[7, 9, 10, 11]
  cf := some (fileOf pool12 10 #[.nestMembers #[290, 276, 500, 502, 262, 267]] #[{ accessFlags := 1, nameIndex := 5, descriptorIndex := 6, attributes := #[] }, { accessFlags := 1, nameIndex := 50, descriptorIndex := 186, attributes := #[] }] 33 2 #[148, 329, 331, 333] #[{ accessFlags := 26, nameIndex := 335, descriptorIndex := 336, attributes := #[] }, { accessFlags := 26, nameIndex := 340, descriptorIndex := 51, attributes := #[] }, { accessFlags := 26, nameIndex := 17, descriptorIndex := 14, attributes := #[] }, { accessFlags := 26, nameIndex := 41, descriptorIndex := 14, attributes := #[] }, { accessFlags := 128, nameIndex := 13, descriptorIndex := 14, attributes := #[] }, { accessFlags := 2, nameIndex := 50, descriptorIndex := 51, attributes := #[] }])
  fields := #[{ name := "serialVersionUID", type := .long, accessFlags := 26, slot := 0, constantValue := 0 }, { name := "DEFAULT_CAPACITY", type := .int, accessFlags := 26, slot := 1, constantValue := 0 }, { name := "EMPTY_ELEMENTDATA", type := (.array (.object "java/lang/Object")), accessFlags := 26, slot := 2, constantValue := 0 }, { name := "DEFAULTCAPACITY_EMPTY_ELEMENTDATA", type := (.array (.object "java/lang/Object")), accessFlags := 26, slot := 3, constantValue := 0 }, { name := "elementData", type := (.array (.object "java/lang/Object")), accessFlags := 128, slot := 1, constantValue := 0 }, { name := "size", type := .int, accessFlags := 2, slot := 2, constantValue := 0 }]
  methods := #[k12m0, k12m1]
  instanceTypes := #[.int, (.array (.object "java/lang/Object")), .int]
  staticTypes := #[.long, .int, (.array (.object "java/lang/Object")), (.array (.object "java/lang/Object"))]
  resolved := Array.replicate 509 none
  statics := some 0 }

def pool13 : Array CpInfo := pool [(2, .class_ 4), (1, u "java/lang/Object"), (0, u "<init>"), (0, u "()V"), (1, .class_ 10), (1, u "java/lang/Number"), (2, .class_ 14), (0, u "java/io/Serializable"), (0, u "serialVersionUID"), (0, u "J")] 20

def k13m0 : Method := { name := "<init>", desc := "()V", sig := { parameters := [], returnType := none }, accessFlags := 1, code := none }
/-- java/lang/Number -/
def k13 : Class := { plain "java/lang/Number" (some 0) with
  accessFlags := 1057
  interfaces := #[11]
  cf := some (fileOf pool13 8 #[] #[{ accessFlags := 1, nameIndex := 5, descriptorIndex := 6, attributes := #[] }] 1057 2 #[13] #[{ accessFlags := 26, nameIndex := 15, descriptorIndex := 16, attributes := #[] }])
  fields := #[{ name := "serialVersionUID", type := .long, accessFlags := 26, slot := 0, constantValue := 0 }]
  methods := #[k13m0]
  instanceTypes := #[]
  staticTypes := #[.long]
  resolved := Array.replicate 37 none
  statics := none }

def pool14 : Array CpInfo := pool [(1, .class_ 2), (0, u "java/lang/Comparable"), (0, .class_ 4), (0, u "java/lang/Object")] 7

/-- java/lang/Comparable -/
def k14 : Class := { plain "java/lang/Comparable" (some 0) with
  accessFlags := 1537
  interfaces := #[]
  cf := some (fileOf pool14 1 #[] #[] 1537 3 #[] #[])
  fields := #[]
  methods := #[]
  instanceTypes := #[]
  staticTypes := #[]
  resolved := Array.replicate 12 none
  statics := none }

def pool15 : Array CpInfo := pool [(3, .class_ 4), (0, u "java/math/BigDecimal"), (7, .class_ 14), (1, u "java/lang/Number"), (4, u "scale"), (0, u "I"), (2, u "precision"), (2, u "intCompact"), (0, u "J"), (2, u "intVal"), (0, u "Ljava/math/BigInteger;"), (65, u "LONG_TEN_POWERS_TABLE"), (0, u "[J"), (88, u "ZERO"), (2, u "INFLATED_BIGINT"), (15, u "TWO"), (41, u "ZERO_THROUGH_TEN"), (0, u "[Ljava/math/BigDecimal;"), (2, u "ZERO_SCALED_BY"), (60, u "$assertionsDisabled"), (0, u "Z"), (163, u "ONE_TENTH"), (0, u "Ljava/math/BigDecimal;"), (5, u "TEN"), (14, .class_ 502), (1, u "java/math/BigDecimal$1"), (15, u "ONE_HALF"), (16, u "ONE"), (107, u "stringCache"), (0, u "Ljava/lang/String;"), (52, .class_ 699), (1, u "java/math/BigDecimal$LongOverflow"), (8, u "FLOAT_10_POW"), (0, u "[F"), (39, u "DOUBLE_10_POW"), (0, u "[D"), (19, .class_ 772), (1, u "java/math/BigDecimal$StringBuilderHelper"), (35, u "BIG_TEN_POWERS_TABLE_MAX"), (2, u "BIG_TEN_POWERS_TABLE"), (0, u "[Ljava/math/BigInteger;"), (14, u "THRESHOLDS_TABLE"), (23, .class_ 853), (1, u "java/math/BigDecimal$UnsafeHolder"), (214, u "LONGLONG_TEN_POWERS_TABLE"), (0, u "[[J"), (112, u "BIG_TEN_POWERS_TABLE_INITLEN"), (113, .class_ 1297), (0, u "java/lang/Comparable"), (0, u "L"), (0, u "D"), (1, u "P_F"), (1, u "Q_MIN_F"), (1, u "Q_MAX_F"), (1, u "P_D"), (1, u "Q_MIN_D"), (1, u "Q_MAX_D"), (1, u "INFLATED"), (0, u "MAX_COMPACT_DIGITS"), (1, u "serialVersionUID"), (2, u "HALF_LONG_MAX_VALUE"), (0, u "HALF_LONG_MIN_VALUE"), (0, u "ROUND_UP"), (6, u "ROUND_DOWN"), (1, u "ROUND_CEILING"), (1, u "ROUND_FLOOR"), (1, u "ROUND_HALF_UP"), (1, u "ROUND_HALF_DOWN"), (1, u "ROUND_HALF_EVEN"), (1, u "ROUND_UNNECESSARY"), (1, u "DIV_NUM_BASE")] 294

/-- java/math/BigDecimal -/
def k15 : Class := { plain "java/math/BigDecimal" (some 13) with
  accessFlags := 33
  interfaces := #[14]
  cf := some (fileOf pool15 3 #[.nestMembers #[500, 851, 770, 697]] #[] 33 12 #[1296] #[{ accessFlags := 26, nameIndex := 1298, descriptorIndex := 1299, attributes := #[] }, { accessFlags := 26, nameIndex := 1301, descriptorIndex := 20, attributes := #[] }, { accessFlags := 26, nameIndex := 1303, descriptorIndex := 20, attributes := #[] }, { accessFlags := 26, nameIndex := 1305, descriptorIndex := 20, attributes := #[] }, { accessFlags := 26, nameIndex := 1307, descriptorIndex := 20, attributes := #[] }, { accessFlags := 26, nameIndex := 1309, descriptorIndex := 20, attributes := #[] }, { accessFlags := 26, nameIndex := 1311, descriptorIndex := 20, attributes := #[] }, { accessFlags := 18, nameIndex := 30, descriptorIndex := 31, attributes := #[] }, { accessFlags := 18, nameIndex := 19, descriptorIndex := 20, attributes := #[] }, { accessFlags := 130, nameIndex := 23, descriptorIndex := 20, attributes := #[] }, { accessFlags := 130, nameIndex := 643, descriptorIndex := 644, attributes := #[] }, { accessFlags := 24, nameIndex := 1313, descriptorIndex := 27, attributes := #[] }, { accessFlags := 26, nameIndex := 190, descriptorIndex := 31, attributes := #[] }, { accessFlags := 146, nameIndex := 26, descriptorIndex := 27, attributes := #[] }, { accessFlags := 26, nameIndex := 1314, descriptorIndex := 20, attributes := #[] }, { accessFlags := 26, nameIndex := 1316, descriptorIndex := 27, attributes := #[] }, { accessFlags := 26, nameIndex := 248, descriptorIndex := 249, attributes := #[] }, { accessFlags := 26, nameIndex := 252, descriptorIndex := 249, attributes := #[] }, { accessFlags := 26, nameIndex := 1319, descriptorIndex := 27, attributes := #[] }, { accessFlags := 26, nameIndex := 1320, descriptorIndex := 27, attributes := #[] }, { accessFlags := 25, nameIndex := 187, descriptorIndex := 479, attributes := #[] }, { accessFlags := 25, nameIndex := 535, descriptorIndex := 479, attributes := #[] }, { accessFlags := 25, nameIndex := 206, descriptorIndex := 479, attributes := #[] }, { accessFlags := 25, nameIndex := 485, descriptorIndex := 479, attributes := #[] }, { accessFlags := 26, nameIndex := 478, descriptorIndex := 479, attributes := #[] }, { accessFlags := 26, nameIndex := 518, descriptorIndex := 479, attributes := #[] }, { accessFlags := 25, nameIndex := 1321, descriptorIndex := 20, attributes := #[] }, { accessFlags := 25, nameIndex := 1328, descriptorIndex := 20, attributes := #[] }, { accessFlags := 25, nameIndex := 1330, descriptorIndex := 20, attributes := #[] }, { accessFlags := 25, nameIndex := 1332, descriptorIndex := 20, attributes := #[] }, { accessFlags := 25, nameIndex := 1334, descriptorIndex := 20, attributes := #[] }, { accessFlags := 25, nameIndex := 1336, descriptorIndex := 20, attributes := #[] }, { accessFlags := 25, nameIndex := 1338, descriptorIndex := 20, attributes := #[] }, { accessFlags := 25, nameIndex := 1340, descriptorIndex := 20, attributes := #[] }, { accessFlags := 26, nameIndex := 749, descriptorIndex := 750, attributes := #[] }, { accessFlags := 26, nameIndex := 708, descriptorIndex := 709, attributes := #[] }, { accessFlags := 26, nameIndex := 97, descriptorIndex := 98, attributes := #[] }, { accessFlags := 74, nameIndex := 811, descriptorIndex := 812, attributes := #[] }, { accessFlags := 26, nameIndex := 1182, descriptorIndex := 20, attributes := #[] }, { accessFlags := 26, nameIndex := 808, descriptorIndex := 20, attributes := #[] }, { accessFlags := 26, nameIndex := 827, descriptorIndex := 98, attributes := #[] }, { accessFlags := 26, nameIndex := 1342, descriptorIndex := 27, attributes := #[] }, { accessFlags := 26, nameIndex := 1068, descriptorIndex := 1069, attributes := #[] }, { accessFlags := 4120, nameIndex := 313, descriptorIndex := 314, attributes := #[] }])
  fields := #[{ name := "L", type := .double, accessFlags := 26, slot := 0, constantValue := 0 }, { name := "P_F", type := .int, accessFlags := 26, slot := 1, constantValue := 0 }, { name := "Q_MIN_F", type := .int, accessFlags := 26, slot := 2, constantValue := 0 }, { name := "Q_MAX_F", type := .int, accessFlags := 26, slot := 3, constantValue := 0 }, { name := "P_D", type := .int, accessFlags := 26, slot := 4, constantValue := 0 }, { name := "Q_MIN_D", type := .int, accessFlags := 26, slot := 5, constantValue := 0 }, { name := "Q_MAX_D", type := .int, accessFlags := 26, slot := 6, constantValue := 0 }, { name := "intVal", type := (.object "java/math/BigInteger"), accessFlags := 18, slot := 0, constantValue := 0 }, { name := "scale", type := .int, accessFlags := 18, slot := 1, constantValue := 0 }, { name := "precision", type := .int, accessFlags := 130, slot := 2, constantValue := 0 }, { name := "stringCache", type := (.object "java/lang/String"), accessFlags := 130, slot := 3, constantValue := 0 }, { name := "INFLATED", type := .long, accessFlags := 24, slot := 7, constantValue := 0 }, { name := "INFLATED_BIGINT", type := (.object "java/math/BigInteger"), accessFlags := 26, slot := 8, constantValue := 0 }, { name := "intCompact", type := .long, accessFlags := 146, slot := 4, constantValue := 0 }, { name := "MAX_COMPACT_DIGITS", type := .int, accessFlags := 26, slot := 9, constantValue := 0 }, { name := "serialVersionUID", type := .long, accessFlags := 26, slot := 10, constantValue := 0 }, { name := "ZERO_THROUGH_TEN", type := (.array (.object "java/math/BigDecimal")), accessFlags := 26, slot := 11, constantValue := 0 }, { name := "ZERO_SCALED_BY", type := (.array (.object "java/math/BigDecimal")), accessFlags := 26, slot := 12, constantValue := 0 }, { name := "HALF_LONG_MAX_VALUE", type := .long, accessFlags := 26, slot := 13, constantValue := 0 }, { name := "HALF_LONG_MIN_VALUE", type := .long, accessFlags := 26, slot := 14, constantValue := 0 }, { name := "ZERO", type := (.object "java/math/BigDecimal"), accessFlags := 25, slot := 15, constantValue := 0 }, { name := "ONE", type := (.object "java/math/BigDecimal"), accessFlags := 25, slot := 16, constantValue := 0 }, { name := "TWO", type := (.object "java/math/BigDecimal"), accessFlags := 25, slot := 17, constantValue := 0 }, { name := "TEN", type := (.object "java/math/BigDecimal"), accessFlags := 25, slot := 18, constantValue := 0 }, { name := "ONE_TENTH", type := (.object "java/math/BigDecimal"), accessFlags := 26, slot := 19, constantValue := 0 }, { name := "ONE_HALF", type := (.object "java/math/BigDecimal"), accessFlags := 26, slot := 20, constantValue := 0 }, { name := "ROUND_UP", type := .int, accessFlags := 25, slot := 21, constantValue := 0 }, { name := "ROUND_DOWN", type := .int, accessFlags := 25, slot := 22, constantValue := 0 }, { name := "ROUND_CEILING", type := .int, accessFlags := 25, slot := 23, constantValue := 0 }, { name := "ROUND_FLOOR", type := .int, accessFlags := 25, slot := 24, constantValue := 0 }, { name := "ROUND_HALF_UP", type := .int, accessFlags := 25, slot := 25, constantValue := 0 }, { name := "ROUND_HALF_DOWN", type := .int, accessFlags := 25, slot := 26, constantValue := 0 }, { name := "ROUND_HALF_EVEN", type := .int, accessFlags := 25, slot := 27, constantValue := 0 }, { name := "ROUND_UNNECESSARY", type := .int, accessFlags := 25, slot := 28, constantValue := 0 }, { name := "DOUBLE_10_POW", type := (.array .double), accessFlags := 26, slot := 29, constantValue := 0 }, { name := "FLOAT_10_POW", type := (.array .float), accessFlags := 26, slot := 30, constantValue := 0 }, { name := "LONG_TEN_POWERS_TABLE", type := (.array .long), accessFlags := 26, slot := 31, constantValue := 0 }, { name := "BIG_TEN_POWERS_TABLE", type := (.array (.object "java/math/BigInteger")), accessFlags := 74, slot := 32, constantValue := 0 }, { name := "BIG_TEN_POWERS_TABLE_INITLEN", type := .int, accessFlags := 26, slot := 33, constantValue := 0 }, { name := "BIG_TEN_POWERS_TABLE_MAX", type := .int, accessFlags := 26, slot := 34, constantValue := 0 }, { name := "THRESHOLDS_TABLE", type := (.array .long), accessFlags := 26, slot := 35, constantValue := 0 }, { name := "DIV_NUM_BASE", type := .long, accessFlags := 26, slot := 36, constantValue := 0 }, { name := "LONGLONG_TEN_POWERS_TABLE", type := (.array (.array .long)), accessFlags := 26, slot := 37, constantValue := 0 }, { name := "$assertionsDisabled", type := .boolean, accessFlags := 4120, slot := 38, constantValue := 0 }]
  methods := #[]
  instanceTypes := #[(.object "java/math/BigInteger"), .int, .int, (.object "java/lang/String"), .long]
  staticTypes := #[.double, .int, .int, .int, .int, .int, .int, .long, (.object "java/math/BigInteger"), .int, .long, (.array (.object "java/math/BigDecimal")), (.array (.object "java/math/BigDecimal")), .long, .long, (.object "java/math/BigDecimal"), (.object "java/math/BigDecimal"), (.object "java/math/BigDecimal"), (.object "java/math/BigDecimal"), (.object "java/math/BigDecimal"), (.object "java/math/BigDecimal"), .int, .int, .int, .int, .int, .int, .int, .int, (.array .double), (.array .float), (.array .long), (.array (.object "java/math/BigInteger")), .int, .int, (.array .long), .long, (.array (.array .long)), .boolean]
  resolved := Array.replicate 1637 none
  statics := none }

def pool16 : Array CpInfo := pool [(2, .class_ 4), (1, u "java/lang/Object"), (0, u "<init>"), (0, u "()V"), (1, .class_ 10), (1, u "java/lang/System"), (0, u "allowSecurityManager"), (0, u "I"), (16, u "cons"), (0, u "Ljava/io/Console;"), (77, .class_ 110), (1, u "java/lang/System$CallersHolder"), (43, u "initialErrStream"), (0, u "Ljava/io/PrintStream;"), (19, u "security"), (0, u "Ljava/lang/SecurityManager;"), (31, .class_ 209), (0, u "java/lang/System$1"), (7, u "props"), (0, u "Ljava/util/Properties;"), (2, u "lineSeparator"), (0, u "Ljava/lang/String;"), (96, .class_ 321), (1, u "java/lang/System$LoggerFinder"), (5, .class_ 328), (0, u "java/lang/System$Logger"), (67, u "err"), (2, u "out"), (91, u "notSupportedJnuEncoding"), (15, u "in"), (17, u "initialIn"), (0, u "Ljava/io/InputStream;"), (35, u "bootLayer"), (0, u "Ljava/lang/ModuleLayer;"), (99, .class_ 664), (0, u "java/lang/System$2"), (9, u "NEVER"), (2, u "MAYBE"), (49, u "arraycopy"), (0, u "(Ljava/lang/Object;ILjava/lang/Object;II)V"), (72, .class_ 802), (0, u "java/lang/System$Logger$Level")] 31

def k16m0 : Method := { name := "<init>", desc := "()V", sig := { parameters := [], returnType := none }, accessFlags := 2, code := none }
def k16m1 : Method := { name := "arraycopy", desc := "(Ljava/lang/Object;ILjava/lang/Object;II)V", sig := { parameters := [(.object "java/lang/Object"), .int, (.object "java/lang/Object"), .int, .int], returnType := none }, accessFlags := 265, code := none }
/-- java/lang/System -/
def k16 : Class := { plain "java/lang/System" (some 0) with
  accessFlags := 49
  interfaces := #[]
  cf := some (fileOf pool16 8 #[.nestMembers #[319, 327, 801, 108, 663, 208]] #[{ accessFlags := 2, nameIndex := 5, descriptorIndex := 6, attributes := #[] }, { accessFlags := 265, nameIndex := 727, descriptorIndex := 728, attributes := #[] }] 49 2 #[] #[{ accessFlags := 25, nameIndex := 507, descriptorIndex := 526, attributes := #[] }, { accessFlags := 25, nameIndex := 399, descriptorIndex := 155, attributes := #[] }, { accessFlags := 25, nameIndex := 396, descriptorIndex := 155, attributes := #[] }, { accessFlags := 10, nameIndex := 525, descriptorIndex := 526, attributes := #[] }, { accessFlags := 26, nameIndex := 674, descriptorIndex := 12, attributes := #[] }, { accessFlags := 26, nameIndex := 677, descriptorIndex := 12, attributes := #[] }, { accessFlags := 10, nameIndex := 11, descriptorIndex := 12, attributes := #[] }, { accessFlags := 74, nameIndex := 175, descriptorIndex := 176, attributes := #[] }, { accessFlags := 10, nameIndex := 491, descriptorIndex := 222, attributes := #[] }, { accessFlags := 74, nameIndex := 29, descriptorIndex := 30, attributes := #[] }, { accessFlags := 74, nameIndex := 154, descriptorIndex := 155, attributes := #[] }, { accessFlags := 10, nameIndex := 217, descriptorIndex := 218, attributes := #[] }, { accessFlags := 10, nameIndex := 221, descriptorIndex := 222, attributes := #[] }, { accessFlags := 8, nameIndex := 562, descriptorIndex := 563, attributes := #[] }])
  fields := #[{ name := "in", type := (.object "java/io/InputStream"), accessFlags := 25, slot := 0, constantValue := 0 }, { name := "out", type := (.object "java/io/PrintStream"), accessFlags := 25, slot := 1, constantValue := 0 }, { name := "err", type := (.object "java/io/PrintStream"), accessFlags := 25, slot := 2, constantValue := 0 }, { name := "initialIn", type := (.object "java/io/InputStream"), accessFlags := 10, slot := 3, constantValue := 0 }, { name := "NEVER", type := .int, accessFlags := 26, slot := 4, constantValue := 0 }, { name := "MAYBE", type := .int, accessFlags := 26, slot := 5, constantValue := 0 }, { name := "allowSecurityManager", type := .int, accessFlags := 10, slot := 6, constantValue := 0 }, { name := "security", type := (.object "java/lang/SecurityManager"), accessFlags := 74, slot := 7, constantValue := 0 }, { name := "notSupportedJnuEncoding", type := (.object "java/lang/String"), accessFlags := 10, slot := 8, constantValue := 0 }, { name := "cons", type := (.object "java/io/Console"), accessFlags := 74, slot := 9, constantValue := 0 }, { name := "initialErrStream", type := (.object "java/io/PrintStream"), accessFlags := 74, slot := 10, constantValue := 0 }, { name := "props", type := (.object "java/util/Properties"), accessFlags := 10, slot := 11, constantValue := 0 }, { name := "lineSeparator", type := (.object "java/lang/String"), accessFlags := 10, slot := 12, constantValue := 0 }, { name := "bootLayer", type := (.object "java/lang/ModuleLayer"), accessFlags := 8, slot := 13, constantValue := 0 }]
  methods := #[k16m0, k16m1]
  instanceTypes := #[]
  staticTypes := #[(.object "java/io/InputStream"), (.object "java/io/PrintStream"), (.object "java/io/PrintStream"), (.object "java/io/InputStream"), .int, .int, .int, (.object "java/lang/SecurityManager"), (.object "java/lang/String"), (.object "java/io/Console"), (.object "java/io/PrintStream"), (.object "java/util/Properties"), (.object "java/lang/String"), (.object "java/lang/ModuleLayer")]
  resolved := Array.replicate 834 none
  statics := none }

def pool17 : Array CpInfo := pool [(2, .class_ 4), (1, u "java/lang/Object"), (0, u "<init>"), (0, u "()V"), (6, .methodref 14 15), (0, .class_ 16), (0, .nameAndType 17 18), (0, u "java/util/Arrays"), (0, u "rangeCheck"), (0, u "(III)V"), (55, .class_ 76), (1, u "java/util/Arrays$NaturalOrder"), (36, .class_ 115), (1, u "java/util/Arrays$LegacyMergeSort"), (1, u "Z"), (89, u "binarySearch0"), (1, .methodref 14 210), (0, .nameAndType 207 211), (0, u "([IIII)I"), (163, .class_ 376), (0, u "java/util/Arrays$ArrayList"), (68, u "$assertionsDisabled"), (269, u "MIN_ARRAY_SORT_GRAN"), (0, u "I"), (2, u "INSERTIONSORT_THRESHOLD"), (74, u "binarySearch"), (180, .class_ 976), (0, u "java/util/Arrays$ArrayItr")] 52

def k17m0 : Method := { name := "<init>", desc := "()V", sig := { parameters := [], returnType := none }, accessFlags := 2, code := none }
def k17c1 : Code := { maxStack := 4, maxLocals := 3, code := jdk_65_method_30_code, exceptionTable := #[], attributes := #[] }
def k17m1 : Method := { name := "rangeCheck", desc := "(III)V", sig := { parameters := [.int, .int, .int], returnType := none }, accessFlags := 8, code := some k17c1 }
def k17c2 : Code := { maxStack := 4, maxLocals := 4, code := jdk_65_method_58_code, exceptionTable := #[], attributes := #[] }
def k17m2 : Method := { name := "binarySearch", desc := "([IIII)I", sig := { parameters := [(.array .int), .int, .int, .int], returnType := some .int }, accessFlags := 9, code := some k17c2 }
def k17c3 : Code := { maxStack := 2, maxLocals := 8, code := jdk_65_method_59_code, exceptionTable := #[], attributes := #[] }
def k17m3 : Method := { name := "binarySearch0", desc := "([IIII)I", sig := { parameters := [(.array .int), .int, .int, .int], returnType := some .int }, accessFlags := 10, code := some k17c3 }
/-- java/util/Arrays -/
def k17 : Class := { plain "java/util/Arrays" (some 0) with
  accessFlags := 49
  interfaces := #[]
  cf := some (fileOf pool17 14 #[.nestMembers #[975, 375, 113, 74]] #[{ accessFlags := 2, nameIndex := 5, descriptorIndex := 6, attributes := #[] }, { accessFlags := 8, nameIndex := 17, descriptorIndex := 18, attributes := #[] }, { accessFlags := 9, nameIndex := 794, descriptorIndex := 211, attributes := #[] }, { accessFlags := 10, nameIndex := 207, descriptorIndex := 211, attributes := #[] }] 49 2 #[] #[{ accessFlags := 26, nameIndex := 715, descriptorIndex := 716, attributes := #[] }, { accessFlags := 26, nameIndex := 719, descriptorIndex := 716, attributes := #[] }, { accessFlags := 4120, nameIndex := 445, descriptorIndex := 117, attributes := #[] }])
  fields := #[{ name := "MIN_ARRAY_SORT_GRAN", type := .int, accessFlags := 26, slot := 0, constantValue := 0 }, { name := "INSERTIONSORT_THRESHOLD", type := .int, accessFlags := 26, slot := 1, constantValue := 0 }, { name := "$assertionsDisabled", type := .boolean, accessFlags := 4120, slot := 2, constantValue := 0 }]
  methods := #[k17m0, k17m1, k17m2, k17m3]
  instanceTypes := #[]
  staticTypes := #[.int, .int, .boolean]
  resolved := Array.replicate 1029 none
  statics := none }

/-- the primitive byte -/
def k18 : Class := { plain "byte" none with kind := .primitive 'B', accessFlags := 0x411 }
/-- [B -/
def k19 : Class := { plain "[B" (some 0) with kind := .array 18 .byte, interfaces := #[10, 11], accessFlags := 1041 }

/-- the primitive int -/
def k20 : Class := { plain "int" none with kind := .primitive 'I', accessFlags := 0x411 }
/-- [I -/
def k21 : Class := { plain "[I" (some 0) with kind := .array 20 .int, interfaces := #[10, 11], accessFlags := 1041 }

/-- the primitive long -/
def k22 : Class := { plain "long" none with kind := .primitive 'J', accessFlags := 0x411 }
/-- [J -/
def k23 : Class := { plain "[J" (some 0) with kind := .array 22 .long, interfaces := #[10, 11], accessFlags := 1041 }

/-- [Ljava/lang/Object; -/
def k24 : Class := { plain "[Ljava/lang/Object;" (some 0) with kind := .array 0 (.object "java/lang/Object"), interfaces := #[10, 11], accessFlags := 1041 }

/-- [Ljava/math/BigDecimal; -/
def k25 : Class := { plain "[Ljava/math/BigDecimal;" (some 0) with kind := .array 15 (.object "java/math/BigDecimal"), interfaces := #[10, 11], accessFlags := 1041 }
/-- [[J -/
def k26 : Class := { plain "[[J" (some 0) with kind := .array 23 (.array .long), interfaces := #[10, 11], accessFlags := 1041 }

def heap : Heap := #[{ cls := 12, slots := #[.long 0, .int 0, .ref 1, .ref 2], vm := .statics 12 },
  { cls := 24, slots := #[], vm := .none },
  { cls := 24, slots := #[], vm := .none }]
def classes : Array Class := #[k0, k1, k2, k3, k4, k5, k6, k7, k8, k9, k10, k11, k12, k13, k14, k15, k16, k17, k18, k19, k20, k21, k22, k23, k24, k25, k26]
def interned : List (Array UInt16 × Addr) := []
def slotsUsed : Nat := 4
def theMethod : MethodId := ⟨1, 1⟩
def args0 : Array Value := #[.int 5, .int 300, .long 3, .long 9, .int 40]
def aboutOver (below : List Frame) : State where
  vm := { classes := classes, interned := interned.toArray }
  heap := heap
  slotsUsed := slotsUsed
  threads := #[{ frames := .invoking theMethod args0 :: below }]
def below0 : List Frame := [.native { method := ⟨0, 0⟩, args := #[] }]
def about1 : State := aboutOver below0
def p0 : Program := .bare "" "" ""
def e0 : Env := launch0.env 0 0 0
theorem w_frames : about1.frames = Frame.invoking theMethod args0 :: below0 := rfl
set_option maxRecDepth 65536 in
theorem w_args : argsFit about1.vm theMethod args0 = true := by decide +kernel
set_option maxRecDepth 65536 in
theorem w_heap : heapFits about1 = true := by decide +kernel
set_option maxRecDepth 65536 in
theorem w_runnable : about1.curStatus? = some .runnable := by decide +kernel
set_option maxRecDepth 65536 in
theorem w_alone : about1.alone = true := by decide +kernel
set_option maxRecDepth 65536 in
theorem w_named : about1.methodNamed? x = some theMethod := by decide +kernel
set_option maxRecDepth 65536 in
theorem w_hears : about1.hears theMethod below0 = true := by decide +kernel
set_option maxRecDepth 65536 in
theorem w_ripe : about1.ripe theMethod args0 below0 = true := by decide +kernel
theorem w_running : about1.status = .running := rfl
set_option maxRecDepth 65536 in
theorem w_room : about1.hasRoom e0.platform room_1 = true :=
  launch0.hasRoom_least _ room_1 (by decide +kernel) (by decide +kernel) (by decide +kernel) (by decide +kernel) (by decide +kernel) (by decide +kernel)
theorem allAtoms_all (ts : List Jvm.Cond) (a : Array Jvm.Value) (st : Jvm.State) : (allAtoms ts).before a st = ts.all (fun c => c.before a st) := by
  induction ts with
  | nil => rfl
  | cons c t ih =>
    show (Jvm.Cond.and c (allAtoms t)).before a st = _
    rw [Jvm.Cond.before_and, ih, List.all_cons]
def words1 : List Jvm.Cond := Jvm.Cond.code x code maxLocals ret :: tables_1
/-- a 'code' word, met by the world's own term for the bytes: nothing is compared byte by byte -/
theorem code_word {y : MethodName} {bytes : ByteArray} {mx : Nat} {rt : Option FieldType} {a : Array Value} {s : State} {m : MethodId} {meth : Method} {c : Code} (h1 : s.methodNamed? y = some m) (h2 : s.vm.method? m = some meth) (h3 : meth.code = some c) (h4 : c.code = bytes)
    (h5 : (c.maxLocals == mx && c.exceptionTable.isEmpty && decide (c.maxStack ≤ mostOperands) && decide (meth.sig.returnType = rt) && !meth.locks && decide (parseMethodDescriptor y.desc = some meth.sig)) = true) : (Jvm.Cond.code y bytes mx rt).before a s = true := by
  simp only [Bool.and_eq_true, beq_iff_eq, Bool.not_eq_true', decide_eq_true_eq] at h5
  obtain ⟨⟨⟨⟨⟨g1, g2⟩, g3⟩, g4⟩, g5⟩, g6⟩ := h5
  simp [Cond.before, Cond.holds, Cond.value, h1, h2, h3, h4, g1, g2, g3, g4, g5, g6]
def isCode : Jvm.Cond → Bool
  | .code _ _ _ _ => true
  | _ => false
theorem all_split {L : List Jvm.Cond} {P : Jvm.Cond → Bool} (h1 : L.all (fun c => isCode c || P c) = true) (h2 : ∀ c ∈ L.filter isCode, P c = true) : L.all P = true := by
  refine List.all_eq_true.mpr fun c hc => ?_
  have h := List.all_eq_true.mp h1 c hc
  rcases Bool.eq_false_or_eq_true (isCode c) with hi | hi
  · exact h2 c (List.mem_filter.mpr ⟨hc, hi⟩)
  · simpa [hi] using h
set_option maxRecDepth 65536 in
theorem w_c0 : (Jvm.Cond.code x code maxLocals ret).before args0 about1 = true := code_word (m := ⟨1, 1⟩) (meth := k1m1) (c := k1c1) (by decide +kernel) rfl rfl rfl (by decide +kernel)
set_option maxRecDepth 65536 in
theorem w_c1 : (Jvm.Cond.code ({ cls := "java/util/ArrayList", name := "<init>", desc := "()V" } : Jvm.MethodName) jdk_38_method_2_code (1 : Nat) (Option.none : Option Jvm.ClassFile.FieldType)).before args0 about1 = true := code_word (m := ⟨12, 0⟩) (meth := k12m0) (c := k12c0) (by decide +kernel) rfl rfl rfl (by decide +kernel)
set_option maxRecDepth 65536 in
theorem w_c2 : (Jvm.Cond.code ({ cls := "java/util/AbstractList", name := "<init>", desc := "()V" } : Jvm.MethodName) jdk_39_method_1_code (1 : Nat) (Option.none : Option Jvm.ClassFile.FieldType)).before args0 about1 = true := code_word (m := ⟨8, 0⟩) (meth := k8m0) (c := k8c0) (by decide +kernel) rfl rfl rfl (by decide +kernel)
set_option maxRecDepth 65536 in
theorem w_c3 : (Jvm.Cond.code ({ cls := "java/util/AbstractCollection", name := "<init>", desc := "()V" } : Jvm.MethodName) jdk_22_method_1_code (1 : Nat) (Option.none : Option Jvm.ClassFile.FieldType)).before args0 about1 = true := code_word (m := ⟨5, 0⟩) (meth := k5m0) (c := k5c0) (by decide +kernel) rfl rfl rfl (by decide +kernel)
set_option maxRecDepth 65536 in
theorem w_c4 : (Jvm.Cond.code ({ cls := "java/lang/Object", name := "<init>", desc := "()V" } : Jvm.MethodName) object_method_1_code (1 : Nat) (Option.none : Option Jvm.ClassFile.FieldType)).before args0 about1 = true := code_word (m := ⟨0, 0⟩) (meth := k0m0) (c := k0c0) (by decide +kernel) rfl rfl rfl (by decide +kernel)
set_option maxRecDepth 65536 in
theorem w_c5 : (Jvm.Cond.code ({ cls := "com/example/vestline/vestline/HoursByPlanYear$Builder", name := "<init>", desc := "(Ljava/util/List;)V" } : Jvm.MethodName) prog_14_method_1_code (2 : Nat) (Option.none : Option Jvm.ClassFile.FieldType)).before args0 about1 = true := code_word (m := ⟨2, 0⟩) (meth := k2m0) (c := k2c0) (by decide +kernel) rfl rfl rfl (by decide +kernel)
set_option maxRecDepth 65536 in
theorem w_c6 : (Jvm.Cond.code ({ cls := "java/util/ArrayList", name := "size", desc := "()I" } : Jvm.MethodName) jdk_38_method_8_code (1 : Nat) (Option.some Jvm.ClassFile.FieldType.int)).before args0 about1 = true := code_word (m := ⟨12, 1⟩) (meth := k12m1) (c := k12c1) (by decide +kernel) rfl rfl rfl (by decide +kernel)
set_option maxRecDepth 65536 in
theorem w_c7 : (Jvm.Cond.code ({ cls := "com/example/vestline/vestline/HoursByPlanYear$Builder", name := "add", desc := "(ILjava/math/BigDecimal;Ljava/util/List;J)V" } : Jvm.MethodName) prog_14_method_3_code (9 : Nat) (Option.none : Option Jvm.ClassFile.FieldType)).before args0 about1 = true := code_word (m := ⟨2, 1⟩) (meth := k2m1) (c := k2c1) (by decide +kernel) rfl rfl rfl (by decide +kernel)
set_option maxRecDepth 65536 in
theorem w_c8 : (Jvm.Cond.code ({ cls := "com/example/vestline/vestline/HoursByPlanYear$Builder", name := "lineOf", desc := "(I)J" } : Jvm.MethodName) prog_14_method_4_code (5 : Nat) (Option.some Jvm.ClassFile.FieldType.long)).before args0 about1 = true := code_word (m := ⟨2, 2⟩) (meth := k2m2) (c := k2c2) (by decide +kernel) rfl rfl rfl (by decide +kernel)
set_option maxRecDepth 65536 in
theorem w_c9 : (Jvm.Cond.code ({ cls := "java/util/Arrays", name := "binarySearch", desc := "([IIII)I" } : Jvm.MethodName) jdk_65_method_58_code (4 : Nat) (Option.some Jvm.ClassFile.FieldType.int)).before args0 about1 = true := code_word (m := ⟨17, 2⟩) (meth := k17m2) (c := k17c2) (by decide +kernel) rfl rfl rfl (by decide +kernel)
set_option maxRecDepth 65536 in
theorem w_c10 : (Jvm.Cond.code ({ cls := "java/util/Arrays", name := "rangeCheck", desc := "(III)V" } : Jvm.MethodName) jdk_65_method_30_code (3 : Nat) (Option.none : Option Jvm.ClassFile.FieldType)).before args0 about1 = true := code_word (m := ⟨17, 1⟩) (meth := k17m1) (c := k17c1) (by decide +kernel) rfl rfl rfl (by decide +kernel)
set_option maxRecDepth 65536 in
theorem w_c11 : (Jvm.Cond.code ({ cls := "java/util/Arrays", name := "binarySearch0", desc := "([IIII)I" } : Jvm.MethodName) jdk_65_method_59_code (8 : Nat) (Option.some Jvm.ClassFile.FieldType.int)).before args0 about1 = true := code_word (m := ⟨17, 3⟩) (meth := k17m3) (c := k17c3) (by decide +kernel) rfl rfl rfl (by decide +kernel)
def codes1 : List Jvm.Cond := [Jvm.Cond.code x code maxLocals ret, Jvm.Cond.code ({ cls := "java/util/ArrayList", name := "<init>", desc := "()V" } : Jvm.MethodName) jdk_38_method_2_code (1 : Nat) (Option.none : Option Jvm.ClassFile.FieldType), Jvm.Cond.code ({ cls := "java/util/AbstractList", name := "<init>", desc := "()V" } : Jvm.MethodName) jdk_39_method_1_code (1 : Nat) (Option.none : Option Jvm.ClassFile.FieldType), Jvm.Cond.code ({ cls := "java/util/AbstractCollection", name := "<init>", desc := "()V" } : Jvm.MethodName) jdk_22_method_1_code (1 : Nat) (Option.none : Option Jvm.ClassFile.FieldType), Jvm.Cond.code ({ cls := "java/lang/Object", name := "<init>", desc := "()V" } : Jvm.MethodName) object_method_1_code (1 : Nat) (Option.none : Option Jvm.ClassFile.FieldType), Jvm.Cond.code ({ cls := "com/example/vestline/vestline/HoursByPlanYear$Builder", name := "<init>", desc := "(Ljava/util/List;)V" } : Jvm.MethodName) prog_14_method_1_code (2 : Nat) (Option.none : Option Jvm.ClassFile.FieldType), Jvm.Cond.code ({ cls := "java/util/ArrayList", name := "size", desc := "()I" } : Jvm.MethodName) jdk_38_method_8_code (1 : Nat) (Option.some Jvm.ClassFile.FieldType.int), Jvm.Cond.code ({ cls := "com/example/vestline/vestline/HoursByPlanYear$Builder", name := "add", desc := "(ILjava/math/BigDecimal;Ljava/util/List;J)V" } : Jvm.MethodName) prog_14_method_3_code (9 : Nat) (Option.none : Option Jvm.ClassFile.FieldType), Jvm.Cond.code ({ cls := "com/example/vestline/vestline/HoursByPlanYear$Builder", name := "lineOf", desc := "(I)J" } : Jvm.MethodName) prog_14_method_4_code (5 : Nat) (Option.some Jvm.ClassFile.FieldType.long), Jvm.Cond.code ({ cls := "java/util/Arrays", name := "binarySearch", desc := "([IIII)I" } : Jvm.MethodName) jdk_65_method_58_code (4 : Nat) (Option.some Jvm.ClassFile.FieldType.int), Jvm.Cond.code ({ cls := "java/util/Arrays", name := "rangeCheck", desc := "(III)V" } : Jvm.MethodName) jdk_65_method_30_code (3 : Nat) (Option.none : Option Jvm.ClassFile.FieldType), Jvm.Cond.code ({ cls := "java/util/Arrays", name := "binarySearch0", desc := "([IIII)I" } : Jvm.MethodName) jdk_65_method_59_code (8 : Nat) (Option.some Jvm.ClassFile.FieldType.int)]
set_option maxRecDepth 65536 in
theorem codes_eq : words1.filter isCode = codes1 := rfl
theorem w_codes : ∀ c ∈ words1.filter isCode, c.before args0 about1 = true := by
  rw [codes_eq]
  intro c hc
  simp only [codes1, List.mem_cons, List.not_mem_nil, or_false] at hc
  rcases hc with rfl | rfl | rfl | rfl | rfl | rfl | rfl | rfl | rfl | rfl | rfl | rfl
  · exact w_c0
  · exact w_c1
  · exact w_c2
  · exact w_c3
  · exact w_c4
  · exact w_c5
  · exact w_c6
  · exact w_c7
  · exact w_c8
  · exact w_c9
  · exact w_c10
  · exact w_c11
set_option maxRecDepth 65536 in
theorem w_t1 : (words1.take 24).all (fun c => isCode c || c.before args0 about1) = true := by decide +kernel
set_option maxRecDepth 65536 in
theorem w_t2 : ((words1.drop 24).take 24).all (fun c => isCode c || c.before args0 about1) = true := by decide +kernel
set_option maxRecDepth 65536 in
theorem w_t3 : (((words1.drop 24).drop 24).take 24).all (fun c => isCode c || c.before args0 about1) = true := by decide +kernel
set_option maxRecDepth 65536 in
theorem w_t4 : (((words1.drop 24).drop 24).drop 24).all (fun c => isCode c || c.before args0 about1) = true := by decide +kernel
theorem w_tables : (allAtoms (Jvm.Cond.code x code maxLocals ret :: tables_1)).before args0 about1 = true := by
  rw [allAtoms_all]
  show words1.all (fun c => c.before args0 about1) = true
  refine all_split ?_ w_codes
  rw [← List.take_append_drop 24 words1, List.all_append, w_t1, ← List.take_append_drop 24 (words1.drop 24), List.all_append, w_t2, ← List.take_append_drop 24 ((words1.drop 24).drop 24), List.all_append, w_t3, w_t4]
  rfl
set_option maxRecDepth 65536 in
theorem w_rest : rest_1_c.before args0 about1 = true := by decide +kernel
set_option maxRecDepth 65536 in
theorem w_case : (Jvm.Cond.and given_1 narrow_1).before args0 about1 = true := by decide +kernel
theorem w_applies : (headSpec (Jvm.Cond.code x code maxLocals ret :: tables_1) room_1).applies x e0.platform about1 = true :=
  (Spec.applies_iff w_frames).mpr ⟨w_running, w_runnable, w_alone, w_named, w_hears, w_ripe, w_room, w_tables⟩
theorem atStart : AtStart classFile x code maxLocals ret World_1 tables_1 room_1 Calls_1 rest_1 Pre_1 launch0 p0 e0 about1 theMethod args0 below0 :=
  ⟨lists_1, trivial, launch0.admits_env _ _ _, launch0.least_env, fairChoices_fair.cas, fairChoices_fair.clock, w_frames, w_args, w_heap, w_applies, trivial, w_rest, w_case⟩
end start1
theorem witness_1 : WitnessClaimed_1 := ⟨start1.p0, start1.e0, start1.about1, start1.theMethod, start1.args0, start1.below0, start1.atStart⟩
end Jvm.Pilot.@@N@@
