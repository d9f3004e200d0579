import JvmDerived
import JvmDerived.Pilot.@@N@@Statement
import JvmDerived.Pilot.@@N@@Code
set_option linter.unusedVariables false
set_option linter.unusedSimpArgs false
namespace Jvm.RoadKit
open Sem ClassFile Op Lib Jvm.Stand Jvm.Free Jvm.LawKit
section New
variable {p : Program} {l : Launch} {e : Env} {R : Room} {s : State} {m : MethodId} {args : Array Value} {below : List Frame} {meth : Method} {c : Code} {T : State} {locs : List Loc} {cells slots : Nat}
theorem retI (X : Stand p l e R s m args below meth c T locs cells slots) (hx : p.tables.exec = Jvm.exec) {pc : Nat} {Ls : Array Slot} {z : Int32} {rest : List Value} (hret : meth.sig.returnType = some .int) (hd : decode c.code pc = .ok (.ireturn, 1)) {fs : List Frame}
    (hl : ∀ (f : JFrame) (acts : List Action), f.method = m → f.locked = none → f.entered = [] → (doReturn e (T.setTop f) acts (some (.int z))).1 = T.setFrames fs) : Steps p.tables e below (T.setTop (mkF m pc Ls (.int z :: rest))) (T.setFrames fs) :=
  retOut X hx hret rfl (Or.inl ⟨rfl, Or.inl rfl, _, rfl⟩) hd hl
theorem retJ (X : Stand p l e R s m args below meth c T locs cells slots) (hx : p.tables.exec = Jvm.exec) {pc : Nat} {Ls : Array Slot} {z : Int64} {rest : List Value} (hret : meth.sig.returnType = some .long) (hd : decode c.code pc = .ok (.lreturn, 1)) {fs : List Frame}
    (hl : ∀ (f : JFrame) (acts : List Action), f.method = m → f.locked = none → f.entered = [] → (doReturn e (T.setTop f) acts (some (.long z))).1 = T.setFrames fs) : Steps p.tables e below (T.setTop (mkF m pc Ls (.long z :: rest))) (T.setFrames fs) :=
  retOut X hx hret rfl (Or.inr (Or.inl ⟨rfl, rfl, _, rfl⟩)) hd hl
theorem retR (X : Stand p l e R s m args below meth c T locs cells slots) (hx : p.tables.exec = Jvm.exec) {pc : Nat} {Ls : Array Slot} {w : Value} {t : FieldType} {rest : List Value} (hret : meth.sig.returnType = some t) (ht : t.isReference = true) (hv : w.isRef = true) (hd : decode c.code pc = .ok (.areturn, 1)) {fs : List Frame}
    (hl : ∀ (f : JFrame) (acts : List Action), f.method = m → f.locked = none → f.entered = [] → (doReturn e (T.setTop f) acts (some w)).1 = T.setFrames fs) : Steps p.tables e below (T.setTop (mkF m pc Ls (w :: rest))) (T.setFrames fs) :=
  retOut X hx hret (by cases t <;> simp_all [narrow, FieldType.isReference]) (Or.inr (Or.inr (Or.inr (Or.inr ⟨rfl, ht, hv⟩)))) hd hl
end New
end Jvm.RoadKit
namespace Jvm.Pilot.@@N@@
open Jvm Jvm.ClassFile Sem Op Lib Jvm.Free Jvm.Stand Jvm.LawKit Jvm.RoadKit Bundle Jvm.Pilot.@@N@@.Jvm.D
abbrev lI (n : Int32) : Slot := .val (.int n)
abbrev lR (a : Addr) : Slot := .val (.ref a)
abbrev lJ (n : Int64) : Slot := .val (.long n)
abbrev lU : Slot := .unset
abbrev lS : Slot := .second
theorem mm0 : (Jvm.Cond.classLink "com/example/percurso/percurso/suite/PrefixTreeChildPinLaw" (7 : Nat) "java/util/ArrayList") ∈ tables_1 := List.mem_of_getElem? (i := 0) rfl
theorem mm1 : (Jvm.Cond.instantiable "java/util/ArrayList" (3 : Nat)) ∈ tables_1 := List.mem_of_getElem? (i := 1) rfl
theorem mm2 : (Jvm.Cond.initialized "java/util/ArrayList") ∈ tables_1 := List.mem_of_getElem? (i := 2) rfl
theorem mm3 : (Jvm.Cond.methodLink "com/example/percurso/percurso/suite/PrefixTreeChildPinLaw" (9 : Nat) ({ cls := "java/util/ArrayList", name := "<init>", desc := "()V" } : Jvm.MethodName)) ∈ tables_1 := List.mem_of_getElem? (i := 3) rfl
theorem mm4 : (Jvm.Cond.instanceMethod ({ cls := "java/util/ArrayList", name := "<init>", desc := "()V" } : Jvm.MethodName)) ∈ tables_1 := List.mem_of_getElem? (i := 4) rfl
theorem mm5 : (Jvm.Cond.code ({ cls := "java/util/ArrayList", name := "<init>", desc := "()V" } : Jvm.MethodName) jdk_38_method_2_code (1 : Nat) (Option.none : Option Jvm.ClassFile.FieldType)) ∈ tables_1 := List.mem_of_getElem? (i := 5) rfl
theorem mm6 : (Jvm.Cond.methodLink "java/util/ArrayList" (1 : Nat) ({ cls := "java/util/AbstractList", name := "<init>", desc := "()V" } : Jvm.MethodName)) ∈ tables_1 := List.mem_of_getElem? (i := 6) rfl
theorem mm7 : (Jvm.Cond.instanceMethod ({ cls := "java/util/AbstractList", name := "<init>", desc := "()V" } : Jvm.MethodName)) ∈ tables_1 := List.mem_of_getElem? (i := 7) rfl
theorem mm10 : (Jvm.Cond.initialized "java/util/AbstractList") ∈ tables_1 := List.mem_of_getElem? (i := 10) rfl
theorem mm11 : (Jvm.Cond.code ({ cls := "java/util/AbstractList", name := "<init>", desc := "()V" } : Jvm.MethodName) jdk_39_method_1_code (1 : Nat) (Option.none : Option Jvm.ClassFile.FieldType)) ∈ tables_1 := List.mem_of_getElem? (i := 11) rfl
theorem mm12 : (Jvm.Cond.methodLink "java/util/AbstractList" (1 : Nat) ({ cls := "java/util/AbstractCollection", name := "<init>", desc := "()V" } : Jvm.MethodName)) ∈ tables_1 := List.mem_of_getElem? (i := 12) rfl
theorem mm13 : (Jvm.Cond.instanceMethod ({ cls := "java/util/AbstractCollection", name := "<init>", desc := "()V" } : Jvm.MethodName)) ∈ tables_1 := List.mem_of_getElem? (i := 13) rfl
theorem mm16 : (Jvm.Cond.initialized "java/util/AbstractCollection") ∈ tables_1 := List.mem_of_getElem? (i := 16) rfl
theorem mm17 : (Jvm.Cond.code ({ cls := "java/util/AbstractCollection", name := "<init>", desc := "()V" } : Jvm.MethodName) jdk_22_method_1_code (1 : Nat) (Option.none : Option Jvm.ClassFile.FieldType)) ∈ tables_1 := List.mem_of_getElem? (i := 17) rfl
theorem mm18 : (Jvm.Cond.methodLink "java/util/AbstractCollection" (1 : Nat) ({ cls := "java/lang/Object", name := "<init>", desc := "()V" } : Jvm.MethodName)) ∈ tables_1 := List.mem_of_getElem? (i := 18) rfl
theorem mm19 : (Jvm.Cond.instanceMethod ({ cls := "java/lang/Object", name := "<init>", desc := "()V" } : Jvm.MethodName)) ∈ tables_1 := List.mem_of_getElem? (i := 19) rfl
theorem mm20 : (Jvm.Cond.code ({ cls := "java/lang/Object", name := "<init>", desc := "()V" } : Jvm.MethodName) object_method_1_code (1 : Nat) (Option.none : Option Jvm.ClassFile.FieldType)) ∈ tables_1 := List.mem_of_getElem? (i := 20) rfl
theorem mm21 : (Jvm.Cond.fieldLink "java/util/AbstractList" (7 : Nat) "java/util/AbstractList" "modCount" "I") ∈ tables_1 := List.mem_of_getElem? (i := 21) rfl
theorem mm22 : (Jvm.Cond.lays "java/util/ArrayList" "java/util/AbstractList" "modCount" "I") ∈ tables_1 := List.mem_of_getElem? (i := 22) rfl
theorem mm23 : (Jvm.Cond.fieldLink "java/util/ArrayList" (39 : Nat) "java/util/ArrayList" "DEFAULTCAPACITY_EMPTY_ELEMENTDATA" "[Ljava/lang/Object;") ∈ tables_1 := List.mem_of_getElem? (i := 23) rfl
theorem mm24 : (Jvm.Cond.fieldLink "java/util/ArrayList" (9 : Nat) "java/util/ArrayList" "elementData" "[Ljava/lang/Object;") ∈ tables_1 := List.mem_of_getElem? (i := 24) rfl
theorem mm25 : (Jvm.Cond.lays "java/util/ArrayList" "java/util/ArrayList" "elementData" "[Ljava/lang/Object;") ∈ tables_1 := List.mem_of_getElem? (i := 25) rfl
theorem mm27 : (Jvm.Cond.methodLink "com/example/percurso/percurso/suite/PrefixTreeChildPinLaw" (10 : Nat) ({ cls := "java/util/ArrayList", name := "add", desc := "(Ljava/lang/Object;)Z" } : Jvm.MethodName)) ∈ tables_1 := List.mem_of_getElem? (i := 27) rfl
theorem mm28 : (Jvm.Cond.declares ({ cls := "java/util/ArrayList", name := "add", desc := "(Ljava/lang/Object;)Z" } : Jvm.MethodName)) ∈ tables_1 := List.mem_of_getElem? (i := 28) rfl
theorem mm29 : (Jvm.Cond.instanceMethod ({ cls := "java/util/ArrayList", name := "add", desc := "(Ljava/lang/Object;)Z" } : Jvm.MethodName)) ∈ tables_1 := List.mem_of_getElem? (i := 29) rfl
theorem mm30 : (Jvm.Cond.selects "java/util/ArrayList" ({ cls := "java/util/ArrayList", name := "add", desc := "(Ljava/lang/Object;)Z" } : Jvm.MethodName) ({ cls := "java/util/ArrayList", name := "add", desc := "(Ljava/lang/Object;)Z" } : Jvm.MethodName)) ∈ tables_1 := List.mem_of_getElem? (i := 30) rfl
theorem mm31 : (Jvm.Cond.code ({ cls := "java/util/ArrayList", name := "add", desc := "(Ljava/lang/Object;)Z" } : Jvm.MethodName) jdk_38_method_25_code (2 : Nat) (Option.some Jvm.ClassFile.FieldType.boolean)) ∈ tables_1 := List.mem_of_getElem? (i := 31) rfl
theorem mm32 : (Jvm.Cond.fieldLink "java/util/ArrayList" (63 : Nat) "java/util/ArrayList" "modCount" "I") ∈ tables_1 := List.mem_of_getElem? (i := 32) rfl
theorem mm33 : (Jvm.Cond.sameField "java/util/ArrayList" "java/util/AbstractList" "modCount" "I") ∈ tables_1 := List.mem_of_getElem? (i := 33) rfl
theorem mm34 : (Jvm.Cond.fieldLink "java/util/ArrayList" (48 : Nat) "java/util/ArrayList" "size" "I") ∈ tables_1 := List.mem_of_getElem? (i := 34) rfl
theorem mm35 : (Jvm.Cond.lays "java/util/ArrayList" "java/util/ArrayList" "size" "I") ∈ tables_1 := List.mem_of_getElem? (i := 35) rfl
theorem mm36 : (Jvm.Cond.methodLink "java/util/ArrayList" (131 : Nat) ({ cls := "java/util/ArrayList", name := "add", desc := "(Ljava/lang/Object;[Ljava/lang/Object;I)V" } : Jvm.MethodName)) ∈ tables_1 := List.mem_of_getElem? (i := 36) rfl
theorem mm37 : (Jvm.Cond.instanceMethod ({ cls := "java/util/ArrayList", name := "add", desc := "(Ljava/lang/Object;[Ljava/lang/Object;I)V" } : Jvm.MethodName)) ∈ tables_1 := List.mem_of_getElem? (i := 37) rfl
theorem mm38 : (Jvm.Cond.privateMethod ({ cls := "java/util/ArrayList", name := "add", desc := "(Ljava/lang/Object;[Ljava/lang/Object;I)V" } : Jvm.MethodName)) ∈ tables_1 := List.mem_of_getElem? (i := 38) rfl
theorem mm39 : (Jvm.Cond.selects "java/util/ArrayList" ({ cls := "java/util/ArrayList", name := "add", desc := "(Ljava/lang/Object;[Ljava/lang/Object;I)V" } : Jvm.MethodName) ({ cls := "java/util/ArrayList", name := "add", desc := "(Ljava/lang/Object;[Ljava/lang/Object;I)V" } : Jvm.MethodName)) ∈ tables_1 := List.mem_of_getElem? (i := 39) rfl
theorem mm40 : (Jvm.Cond.code ({ cls := "java/util/ArrayList", name := "add", desc := "(Ljava/lang/Object;[Ljava/lang/Object;I)V" } : Jvm.MethodName) jdk_38_method_24_code (4 : Nat) (Option.none : Option Jvm.ClassFile.FieldType)) ∈ tables_1 := List.mem_of_getElem? (i := 40) rfl
theorem mm41 : (Jvm.Cond.methodLink "java/util/ArrayList" (129 : Nat) ({ cls := "java/util/ArrayList", name := "grow", desc := "()[Ljava/lang/Object;" } : Jvm.MethodName)) ∈ tables_1 := List.mem_of_getElem? (i := 41) rfl
theorem mm42 : (Jvm.Cond.instanceMethod ({ cls := "java/util/ArrayList", name := "grow", desc := "()[Ljava/lang/Object;" } : Jvm.MethodName)) ∈ tables_1 := List.mem_of_getElem? (i := 42) rfl
theorem mm43 : (Jvm.Cond.privateMethod ({ cls := "java/util/ArrayList", name := "grow", desc := "()[Ljava/lang/Object;" } : Jvm.MethodName)) ∈ tables_1 := List.mem_of_getElem? (i := 43) rfl
theorem mm44 : (Jvm.Cond.selects "java/util/ArrayList" ({ cls := "java/util/ArrayList", name := "grow", desc := "()[Ljava/lang/Object;" } : Jvm.MethodName) ({ cls := "java/util/ArrayList", name := "grow", desc := "()[Ljava/lang/Object;" } : Jvm.MethodName)) ∈ tables_1 := List.mem_of_getElem? (i := 44) rfl
theorem mm45 : (Jvm.Cond.code ({ cls := "java/util/ArrayList", name := "grow", desc := "()[Ljava/lang/Object;" } : Jvm.MethodName) jdk_38_method_7_code (1 : Nat) (Option.some (Jvm.ClassFile.FieldType.array (Jvm.ClassFile.FieldType.object "java/lang/Object")))) ∈ tables_1 := List.mem_of_getElem? (i := 45) rfl
theorem mm46 : (Jvm.Cond.methodLink "java/util/ArrayList" (69 : Nat) ({ cls := "java/util/ArrayList", name := "grow", desc := "(I)[Ljava/lang/Object;" } : Jvm.MethodName)) ∈ tables_1 := List.mem_of_getElem? (i := 46) rfl
theorem mm47 : (Jvm.Cond.instanceMethod ({ cls := "java/util/ArrayList", name := "grow", desc := "(I)[Ljava/lang/Object;" } : Jvm.MethodName)) ∈ tables_1 := List.mem_of_getElem? (i := 47) rfl
theorem mm48 : (Jvm.Cond.privateMethod ({ cls := "java/util/ArrayList", name := "grow", desc := "(I)[Ljava/lang/Object;" } : Jvm.MethodName)) ∈ tables_1 := List.mem_of_getElem? (i := 48) rfl
theorem mm49 : (Jvm.Cond.selects "java/util/ArrayList" ({ cls := "java/util/ArrayList", name := "grow", desc := "(I)[Ljava/lang/Object;" } : Jvm.MethodName) ({ cls := "java/util/ArrayList", name := "grow", desc := "(I)[Ljava/lang/Object;" } : Jvm.MethodName)) ∈ tables_1 := List.mem_of_getElem? (i := 49) rfl
theorem mm50 : (Jvm.Cond.code ({ cls := "java/util/ArrayList", name := "grow", desc := "(I)[Ljava/lang/Object;" } : Jvm.MethodName) jdk_38_method_6_code (4 : Nat) (Option.some (Jvm.ClassFile.FieldType.array (Jvm.ClassFile.FieldType.object "java/lang/Object")))) ∈ tables_1 := List.mem_of_getElem? (i := 50) rfl
theorem mm51 : (Jvm.Cond.methodLink "java/util/ArrayList" (79 : Nat) ({ cls := "java/lang/Math", name := "max", desc := "(II)I" } : Jvm.MethodName)) ∈ tables_1 := List.mem_of_getElem? (i := 51) rfl
theorem mm52 : (Jvm.Cond.static ({ cls := "java/lang/Math", name := "max", desc := "(II)I" } : Jvm.MethodName)) ∈ tables_1 := List.mem_of_getElem? (i := 52) rfl
theorem mm53 : (Jvm.Cond.initialized "java/lang/Math") ∈ tables_1 := List.mem_of_getElem? (i := 53) rfl
theorem mm54 : (Jvm.Cond.code ({ cls := "java/lang/Math", name := "max", desc := "(II)I" } : Jvm.MethodName) jdk_29_method_65_code (2 : Nat) (Option.some Jvm.ClassFile.FieldType.int)) ∈ tables_1 := List.mem_of_getElem? (i := 54) rfl
theorem mm55 : (Jvm.Cond.classLink "java/util/ArrayList" (7 : Nat) "java/lang/Object") ∈ tables_1 := List.mem_of_getElem? (i := 55) rfl
theorem mm56 : (Jvm.Cond.arrayOver (Jvm.ClassFile.FieldType.object "java/lang/Object")) ∈ tables_1 := List.mem_of_getElem? (i := 56) rfl
theorem mm57 : (Jvm.Cond.castable "[I" "java/lang/Object") ∈ tables_1 := List.mem_of_getElem? (i := 57) rfl
theorem mm58 : (Jvm.Cond.classLink "com/example/percurso/percurso/suite/PrefixTreeChildPinLaw" (14 : Nat) "com/example/percurso/percurso/suite/PrefixTree") ∈ tables_1 := List.mem_of_getElem? (i := 58) rfl
theorem mm59 : (Jvm.Cond.instantiable "com/example/percurso/percurso/suite/PrefixTree" (6 : Nat)) ∈ tables_1 := List.mem_of_getElem? (i := 59) rfl
theorem mm60 : (Jvm.Cond.initialized "com/example/percurso/percurso/suite/PrefixTree") ∈ tables_1 := List.mem_of_getElem? (i := 60) rfl
theorem mm61 : (Jvm.Cond.classLink "com/example/percurso/percurso/suite/PrefixTreeChildPinLaw" (16 : Nat) "com/example/percurso/percurso/suite/Suite") ∈ tables_1 := List.mem_of_getElem? (i := 61) rfl
theorem mm62 : (Jvm.Cond.instantiable "com/example/percurso/percurso/suite/Suite" (1 : Nat)) ∈ tables_1 := List.mem_of_getElem? (i := 62) rfl
theorem mm63 : (Jvm.Cond.initialized "com/example/percurso/percurso/suite/Suite") ∈ tables_1 := List.mem_of_getElem? (i := 63) rfl
theorem mm64 : (Jvm.Cond.methodLink "com/example/percurso/percurso/suite/PrefixTreeChildPinLaw" (18 : Nat) ({ cls := "com/example/percurso/percurso/suite/Suite", name := "<init>", desc := "(Ljava/util/List;)V" } : Jvm.MethodName)) ∈ tables_1 := List.mem_of_getElem? (i := 64) rfl
theorem mm65 : (Jvm.Cond.instanceMethod ({ cls := "com/example/percurso/percurso/suite/Suite", name := "<init>", desc := "(Ljava/util/List;)V" } : Jvm.MethodName)) ∈ tables_1 := List.mem_of_getElem? (i := 65) rfl
theorem mm66 : (Jvm.Cond.code ({ cls := "com/example/percurso/percurso/suite/Suite", name := "<init>", desc := "(Ljava/util/List;)V" } : Jvm.MethodName) prog_193_method_1_code (3 : Nat) (Option.none : Option Jvm.ClassFile.FieldType)) ∈ tables_1 := List.mem_of_getElem? (i := 66) rfl
theorem mm67 : (Jvm.Cond.methodLink "com/example/percurso/percurso/suite/Suite" (1 : Nat) ({ cls := "java/lang/Object", name := "<init>", desc := "()V" } : Jvm.MethodName)) ∈ tables_1 := List.mem_of_getElem? (i := 67) rfl
theorem mm68 : (Jvm.Cond.methodLink "com/example/percurso/percurso/suite/Suite" (7 : Nat) ({ cls := "java/util/List", name := "size", desc := "()I" } : Jvm.MethodName)) ∈ tables_1 := List.mem_of_getElem? (i := 68) rfl
theorem mm69 : (Jvm.Cond.declares ({ cls := "java/util/List", name := "size", desc := "()I" } : Jvm.MethodName)) ∈ tables_1 := List.mem_of_getElem? (i := 69) rfl
theorem mm70 : (Jvm.Cond.interfaceMethod "java/util/List" "java/util/List" "size" "()I") ∈ tables_1 := List.mem_of_getElem? (i := 70) rfl
theorem mm71 : (Jvm.Cond.selects "java/util/ArrayList" ({ cls := "java/util/List", name := "size", desc := "()I" } : Jvm.MethodName) ({ cls := "java/util/ArrayList", name := "size", desc := "()I" } : Jvm.MethodName)) ∈ tables_1 := List.mem_of_getElem? (i := 71) rfl
theorem mm72 : (Jvm.Cond.instanceMethod ({ cls := "java/util/ArrayList", name := "size", desc := "()I" } : Jvm.MethodName)) ∈ tables_1 := List.mem_of_getElem? (i := 72) rfl
theorem mm73 : (Jvm.Cond.publicMethod ({ cls := "java/util/ArrayList", name := "size", desc := "()I" } : Jvm.MethodName)) ∈ tables_1 := List.mem_of_getElem? (i := 73) rfl
theorem mm74 : (Jvm.Cond.unhidden "java/util/ArrayList" "size" "()I") ∈ tables_1 := List.mem_of_getElem? (i := 74) rfl
theorem mm75 : (Jvm.Cond.castable "java/util/ArrayList" "java/util/List") ∈ tables_1 := List.mem_of_getElem? (i := 75) rfl
theorem mm76 : (Jvm.Cond.code ({ cls := "java/util/ArrayList", name := "size", desc := "()I" } : Jvm.MethodName) jdk_38_method_8_code (1 : Nat) (Option.some Jvm.ClassFile.FieldType.int)) ∈ tables_1 := List.mem_of_getElem? (i := 76) rfl
theorem mm77 : (Jvm.Cond.classLink "com/example/percurso/percurso/suite/Suite" (13 : Nat) "[I") ∈ tables_1 := List.mem_of_getElem? (i := 77) rfl
theorem mm78 : (Jvm.Cond.arrayOver (Jvm.ClassFile.FieldType.array Jvm.ClassFile.FieldType.int)) ∈ tables_1 := List.mem_of_getElem? (i := 78) rfl
theorem mm79 : (Jvm.Cond.fieldLink "com/example/percurso/percurso/suite/Suite" (15 : Nat) "com/example/percurso/percurso/suite/Suite" "tests" "[[I") ∈ tables_1 := List.mem_of_getElem? (i := 79) rfl
theorem mm80 : (Jvm.Cond.laysFinal "com/example/percurso/percurso/suite/Suite" "com/example/percurso/percurso/suite/Suite" "tests" "[[I") ∈ tables_1 := List.mem_of_getElem? (i := 80) rfl
theorem mm81 : (Jvm.Cond.methodLink "com/example/percurso/percurso/suite/Suite" (21 : Nat) ({ cls := "java/util/List", name := "get", desc := "(I)Ljava/lang/Object;" } : Jvm.MethodName)) ∈ tables_1 := List.mem_of_getElem? (i := 81) rfl
theorem mm82 : (Jvm.Cond.declares ({ cls := "java/util/List", name := "get", desc := "(I)Ljava/lang/Object;" } : Jvm.MethodName)) ∈ tables_1 := List.mem_of_getElem? (i := 82) rfl
theorem mm83 : (Jvm.Cond.interfaceMethod "java/util/List" "java/util/List" "get" "(I)Ljava/lang/Object;") ∈ tables_1 := List.mem_of_getElem? (i := 83) rfl
theorem mm84 : (Jvm.Cond.selects "java/util/ArrayList" ({ cls := "java/util/List", name := "get", desc := "(I)Ljava/lang/Object;" } : Jvm.MethodName) ({ cls := "java/util/ArrayList", name := "get", desc := "(I)Ljava/lang/Object;" } : Jvm.MethodName)) ∈ tables_1 := List.mem_of_getElem? (i := 84) rfl
theorem mm85 : (Jvm.Cond.instanceMethod ({ cls := "java/util/ArrayList", name := "get", desc := "(I)Ljava/lang/Object;" } : Jvm.MethodName)) ∈ tables_1 := List.mem_of_getElem? (i := 85) rfl
theorem mm86 : (Jvm.Cond.publicMethod ({ cls := "java/util/ArrayList", name := "get", desc := "(I)Ljava/lang/Object;" } : Jvm.MethodName)) ∈ tables_1 := List.mem_of_getElem? (i := 86) rfl
theorem mm87 : (Jvm.Cond.unhidden "java/util/ArrayList" "get" "(I)Ljava/lang/Object;") ∈ tables_1 := List.mem_of_getElem? (i := 87) rfl
theorem mm88 : (Jvm.Cond.code ({ cls := "java/util/ArrayList", name := "get", desc := "(I)Ljava/lang/Object;" } : Jvm.MethodName) jdk_38_method_20_code (2 : Nat) (Option.some (Jvm.ClassFile.FieldType.object "java/lang/Object"))) ∈ tables_1 := List.mem_of_getElem? (i := 88) rfl
theorem mm89 : (Jvm.Cond.methodLink "java/util/ArrayList" (118 : Nat) ({ cls := "java/util/Objects", name := "checkIndex", desc := "(II)I" } : Jvm.MethodName)) ∈ tables_1 := List.mem_of_getElem? (i := 89) rfl
theorem mm90 : (Jvm.Cond.static ({ cls := "java/util/Objects", name := "checkIndex", desc := "(II)I" } : Jvm.MethodName)) ∈ tables_1 := List.mem_of_getElem? (i := 90) rfl
theorem mm91 : (Jvm.Cond.initialized "java/util/Objects") ∈ tables_1 := List.mem_of_getElem? (i := 91) rfl
theorem mm92 : (Jvm.Cond.code ({ cls := "java/util/Objects", name := "checkIndex", desc := "(II)I" } : Jvm.MethodName) jdk_31_method_17_code (2 : Nat) (Option.some Jvm.ClassFile.FieldType.int)) ∈ tables_1 := List.mem_of_getElem? (i := 92) rfl
theorem mm93 : (Jvm.Cond.methodLink "java/util/Objects" (105 : Nat) ({ cls := "jdk/internal/util/Preconditions", name := "checkIndex", desc := "(IILjava/util/function/BiFunction;)I" } : Jvm.MethodName)) ∈ tables_1 := List.mem_of_getElem? (i := 93) rfl
theorem mm94 : (Jvm.Cond.static ({ cls := "jdk/internal/util/Preconditions", name := "checkIndex", desc := "(IILjava/util/function/BiFunction;)I" } : Jvm.MethodName)) ∈ tables_1 := List.mem_of_getElem? (i := 94) rfl
theorem mm95 : (Jvm.Cond.initialized "jdk/internal/util/Preconditions") ∈ tables_1 := List.mem_of_getElem? (i := 95) rfl
theorem mm96 : (Jvm.Cond.code ({ cls := "jdk/internal/util/Preconditions", name := "checkIndex", desc := "(IILjava/util/function/BiFunction;)I" } : Jvm.MethodName) jdk_41_method_11_code (3 : Nat) (Option.some Jvm.ClassFile.FieldType.int)) ∈ tables_1 := List.mem_of_getElem? (i := 96) rfl
theorem mm97 : (Jvm.Cond.methodLink "java/util/ArrayList" (123 : Nat) ({ cls := "java/util/ArrayList", name := "elementData", desc := "(I)Ljava/lang/Object;" } : Jvm.MethodName)) ∈ tables_1 := List.mem_of_getElem? (i := 97) rfl
theorem mm98 : (Jvm.Cond.declares ({ cls := "java/util/ArrayList", name := "elementData", desc := "(I)Ljava/lang/Object;" } : Jvm.MethodName)) ∈ tables_1 := List.mem_of_getElem? (i := 98) rfl
theorem mm99 : (Jvm.Cond.instanceMethod ({ cls := "java/util/ArrayList", name := "elementData", desc := "(I)Ljava/lang/Object;" } : Jvm.MethodName)) ∈ tables_1 := List.mem_of_getElem? (i := 99) rfl
theorem mm100 : (Jvm.Cond.selects "java/util/ArrayList" ({ cls := "java/util/ArrayList", name := "elementData", desc := "(I)Ljava/lang/Object;" } : Jvm.MethodName) ({ cls := "java/util/ArrayList", name := "elementData", desc := "(I)Ljava/lang/Object;" } : Jvm.MethodName)) ∈ tables_1 := List.mem_of_getElem? (i := 100) rfl
theorem mm101 : (Jvm.Cond.code ({ cls := "java/util/ArrayList", name := "elementData", desc := "(I)Ljava/lang/Object;" } : Jvm.MethodName) jdk_38_method_18_code (2 : Nat) (Option.some (Jvm.ClassFile.FieldType.object "java/lang/Object"))) ∈ tables_1 := List.mem_of_getElem? (i := 101) rfl
theorem mm103 : (Jvm.Cond.methodLink "com/example/percurso/percurso/suite/Suite" (25 : Nat) ({ cls := "[I", name := "clone", desc := "()Ljava/lang/Object;" } : Jvm.MethodName)) ∈ tables_1 := List.mem_of_getElem? (i := 103) rfl
theorem mm104 : (Jvm.Cond.sameMethod "[I" "java/lang/Object" "clone" "()Ljava/lang/Object;") ∈ tables_1 := List.mem_of_getElem? (i := 104) rfl
theorem mm106 : (Jvm.Cond.instanceMethod ({ cls := "java/lang/Object", name := "clone", desc := "()Ljava/lang/Object;" } : Jvm.MethodName)) ∈ tables_1 := List.mem_of_getElem? (i := 106) rfl
theorem mm107 : (Jvm.Cond.selects "[I" ({ cls := "[I", name := "clone", desc := "()Ljava/lang/Object;" } : Jvm.MethodName) ({ cls := "java/lang/Object", name := "clone", desc := "()Ljava/lang/Object;" } : Jvm.MethodName)) ∈ tables_1 := List.mem_of_getElem? (i := 107) rfl
theorem mm108 : (Jvm.Cond.native ({ cls := "java/lang/Object", name := "clone", desc := "()Ljava/lang/Object;" } : Jvm.MethodName)) ∈ tables_1 := List.mem_of_getElem? (i := 108) rfl
theorem mm109 : (Jvm.Cond.castable "[I" "java/lang/Cloneable") ∈ tables_1 := List.mem_of_getElem? (i := 109) rfl
theorem mm110 : (Jvm.Cond.methodLink "com/example/percurso/percurso/suite/PrefixTreeChildPinLaw" (21 : Nat) ({ cls := "com/example/percurso/percurso/suite/PrefixTree", name := "<init>", desc := "(Lcom/example/percurso/percurso/suite/Suite;)V" } : Jvm.MethodName)) ∈ tables_1 := List.mem_of_getElem? (i := 110) rfl
theorem mm111 : (Jvm.Cond.instanceMethod ({ cls := "com/example/percurso/percurso/suite/PrefixTree", name := "<init>", desc := "(Lcom/example/percurso/percurso/suite/Suite;)V" } : Jvm.MethodName)) ∈ tables_1 := List.mem_of_getElem? (i := 111) rfl
theorem mm112 : (Jvm.Cond.code ({ cls := "com/example/percurso/percurso/suite/PrefixTree", name := "<init>", desc := "(Lcom/example/percurso/percurso/suite/Suite;)V" } : Jvm.MethodName) prog_191_method_1_code (16 : Nat) (Option.none : Option Jvm.ClassFile.FieldType)) ∈ tables_1 := List.mem_of_getElem? (i := 112) rfl
theorem mm113 : (Jvm.Cond.methodLink "com/example/percurso/percurso/suite/PrefixTree" (1 : Nat) ({ cls := "java/lang/Object", name := "<init>", desc := "()V" } : Jvm.MethodName)) ∈ tables_1 := List.mem_of_getElem? (i := 113) rfl
theorem mm114 : (Jvm.Cond.methodLink "com/example/percurso/percurso/suite/PrefixTree" (7 : Nat) ({ cls := "com/example/percurso/percurso/suite/Suite", name := "inputCount", desc := "()J" } : Jvm.MethodName)) ∈ tables_1 := List.mem_of_getElem? (i := 114) rfl
theorem mm115 : (Jvm.Cond.declares ({ cls := "com/example/percurso/percurso/suite/Suite", name := "inputCount", desc := "()J" } : Jvm.MethodName)) ∈ tables_1 := List.mem_of_getElem? (i := 115) rfl
theorem mm116 : (Jvm.Cond.instanceMethod ({ cls := "com/example/percurso/percurso/suite/Suite", name := "inputCount", desc := "()J" } : Jvm.MethodName)) ∈ tables_1 := List.mem_of_getElem? (i := 116) rfl
theorem mm117 : (Jvm.Cond.selects "com/example/percurso/percurso/suite/Suite" ({ cls := "com/example/percurso/percurso/suite/Suite", name := "inputCount", desc := "()J" } : Jvm.MethodName) ({ cls := "com/example/percurso/percurso/suite/Suite", name := "inputCount", desc := "()J" } : Jvm.MethodName)) ∈ tables_1 := List.mem_of_getElem? (i := 117) rfl
theorem mm118 : (Jvm.Cond.code ({ cls := "com/example/percurso/percurso/suite/Suite", name := "inputCount", desc := "()J" } : Jvm.MethodName) prog_193_method_7_code (7 : Nat) (Option.some Jvm.ClassFile.FieldType.long)) ∈ tables_1 := List.mem_of_getElem? (i := 118) rfl
theorem mm119 : (Jvm.Cond.constantLong "com/example/percurso/percurso/suite/PrefixTree" (15 : Nat) (2147483639 : Int64)) ∈ tables_1 := List.mem_of_getElem? (i := 119) rfl
theorem mm120 : (Jvm.Cond.fieldLink "com/example/percurso/percurso/suite/PrefixTree" (26 : Nat) "com/example/percurso/percurso/suite/PrefixTree" "parents" "[I") ∈ tables_1 := List.mem_of_getElem? (i := 120) rfl
theorem mm121 : (Jvm.Cond.laysFinal "com/example/percurso/percurso/suite/PrefixTree" "com/example/percurso/percurso/suite/PrefixTree" "parents" "[I") ∈ tables_1 := List.mem_of_getElem? (i := 121) rfl
theorem mm122 : (Jvm.Cond.fieldLink "com/example/percurso/percurso/suite/PrefixTree" (32 : Nat) "com/example/percurso/percurso/suite/PrefixTree" "inputs" "[I") ∈ tables_1 := List.mem_of_getElem? (i := 122) rfl
theorem mm123 : (Jvm.Cond.laysFinal "com/example/percurso/percurso/suite/PrefixTree" "com/example/percurso/percurso/suite/PrefixTree" "inputs" "[I") ∈ tables_1 := List.mem_of_getElem? (i := 123) rfl
theorem mm124 : (Jvm.Cond.fieldLink "com/example/percurso/percurso/suite/PrefixTree" (35 : Nat) "com/example/percurso/percurso/suite/PrefixTree" "depths" "[I") ∈ tables_1 := List.mem_of_getElem? (i := 124) rfl
theorem mm125 : (Jvm.Cond.laysFinal "com/example/percurso/percurso/suite/PrefixTree" "com/example/percurso/percurso/suite/PrefixTree" "depths" "[I") ∈ tables_1 := List.mem_of_getElem? (i := 125) rfl
theorem mm126 : (Jvm.Cond.fieldLink "com/example/percurso/percurso/suite/PrefixTree" (38 : Nat) "com/example/percurso/percurso/suite/PrefixTree" "firstChildren" "[I") ∈ tables_1 := List.mem_of_getElem? (i := 126) rfl
theorem mm127 : (Jvm.Cond.laysFinal "com/example/percurso/percurso/suite/PrefixTree" "com/example/percurso/percurso/suite/PrefixTree" "firstChildren" "[I") ∈ tables_1 := List.mem_of_getElem? (i := 127) rfl
theorem mm128 : (Jvm.Cond.fieldLink "com/example/percurso/percurso/suite/PrefixTree" (41 : Nat) "com/example/percurso/percurso/suite/PrefixTree" "nextSiblings" "[I") ∈ tables_1 := List.mem_of_getElem? (i := 128) rfl
theorem mm129 : (Jvm.Cond.laysFinal "com/example/percurso/percurso/suite/PrefixTree" "com/example/percurso/percurso/suite/PrefixTree" "nextSiblings" "[I") ∈ tables_1 := List.mem_of_getElem? (i := 129) rfl
theorem mm130 : (Jvm.Cond.methodLink "com/example/percurso/percurso/suite/PrefixTree" (44 : Nat) ({ cls := "com/example/percurso/percurso/suite/Suite", name := "testCount", desc := "()I" } : Jvm.MethodName)) ∈ tables_1 := List.mem_of_getElem? (i := 130) rfl
theorem mm131 : (Jvm.Cond.declares ({ cls := "com/example/percurso/percurso/suite/Suite", name := "testCount", desc := "()I" } : Jvm.MethodName)) ∈ tables_1 := List.mem_of_getElem? (i := 131) rfl
theorem mm132 : (Jvm.Cond.instanceMethod ({ cls := "com/example/percurso/percurso/suite/Suite", name := "testCount", desc := "()I" } : Jvm.MethodName)) ∈ tables_1 := List.mem_of_getElem? (i := 132) rfl
theorem mm133 : (Jvm.Cond.selects "com/example/percurso/percurso/suite/Suite" ({ cls := "com/example/percurso/percurso/suite/Suite", name := "testCount", desc := "()I" } : Jvm.MethodName) ({ cls := "com/example/percurso/percurso/suite/Suite", name := "testCount", desc := "()I" } : Jvm.MethodName)) ∈ tables_1 := List.mem_of_getElem? (i := 133) rfl
theorem mm134 : (Jvm.Cond.code ({ cls := "com/example/percurso/percurso/suite/Suite", name := "testCount", desc := "()I" } : Jvm.MethodName) prog_193_method_3_code (1 : Nat) (Option.some Jvm.ClassFile.FieldType.int)) ∈ tables_1 := List.mem_of_getElem? (i := 134) rfl
theorem mm135 : (Jvm.Cond.methodLink "com/example/percurso/percurso/suite/PrefixTree" (48 : Nat) ({ cls := "com/example/percurso/percurso/suite/Suite", name := "length", desc := "(I)I" } : Jvm.MethodName)) ∈ tables_1 := List.mem_of_getElem? (i := 135) rfl
theorem mm136 : (Jvm.Cond.declares ({ cls := "com/example/percurso/percurso/suite/Suite", name := "length", desc := "(I)I" } : Jvm.MethodName)) ∈ tables_1 := List.mem_of_getElem? (i := 136) rfl
theorem mm137 : (Jvm.Cond.instanceMethod ({ cls := "com/example/percurso/percurso/suite/Suite", name := "length", desc := "(I)I" } : Jvm.MethodName)) ∈ tables_1 := List.mem_of_getElem? (i := 137) rfl
theorem mm138 : (Jvm.Cond.selects "com/example/percurso/percurso/suite/Suite" ({ cls := "com/example/percurso/percurso/suite/Suite", name := "length", desc := "(I)I" } : Jvm.MethodName) ({ cls := "com/example/percurso/percurso/suite/Suite", name := "length", desc := "(I)I" } : Jvm.MethodName)) ∈ tables_1 := List.mem_of_getElem? (i := 138) rfl
theorem mm139 : (Jvm.Cond.code ({ cls := "com/example/percurso/percurso/suite/Suite", name := "length", desc := "(I)I" } : Jvm.MethodName) prog_193_method_4_code (2 : Nat) (Option.some Jvm.ClassFile.FieldType.int)) ∈ tables_1 := List.mem_of_getElem? (i := 139) rfl
theorem mm140 : (Jvm.Cond.methodLink "com/example/percurso/percurso/suite/PrefixTree" (52 : Nat) ({ cls := "com/example/percurso/percurso/suite/Suite", name := "input", desc := "(II)I" } : Jvm.MethodName)) ∈ tables_1 := List.mem_of_getElem? (i := 140) rfl
theorem mm141 : (Jvm.Cond.declares ({ cls := "com/example/percurso/percurso/suite/Suite", name := "input", desc := "(II)I" } : Jvm.MethodName)) ∈ tables_1 := List.mem_of_getElem? (i := 141) rfl
theorem mm142 : (Jvm.Cond.instanceMethod ({ cls := "com/example/percurso/percurso/suite/Suite", name := "input", desc := "(II)I" } : Jvm.MethodName)) ∈ tables_1 := List.mem_of_getElem? (i := 142) rfl
theorem mm143 : (Jvm.Cond.selects "com/example/percurso/percurso/suite/Suite" ({ cls := "com/example/percurso/percurso/suite/Suite", name := "input", desc := "(II)I" } : Jvm.MethodName) ({ cls := "com/example/percurso/percurso/suite/Suite", name := "input", desc := "(II)I" } : Jvm.MethodName)) ∈ tables_1 := List.mem_of_getElem? (i := 143) rfl
theorem mm144 : (Jvm.Cond.code ({ cls := "com/example/percurso/percurso/suite/Suite", name := "input", desc := "(II)I" } : Jvm.MethodName) prog_193_method_6_code (3 : Nat) (Option.some Jvm.ClassFile.FieldType.int)) ∈ tables_1 := List.mem_of_getElem? (i := 144) rfl
theorem mm145 : (Jvm.Cond.methodLink "com/example/percurso/percurso/suite/PrefixTree" (56 : Nat) ({ cls := "com/example/percurso/percurso/suite/PrefixTree", name := "child", desc := "(II)I" } : Jvm.MethodName)) ∈ tables_1 := List.mem_of_getElem? (i := 145) rfl
theorem mm146 : (Jvm.Cond.declares ({ cls := "com/example/percurso/percurso/suite/PrefixTree", name := "child", desc := "(II)I" } : Jvm.MethodName)) ∈ tables_1 := List.mem_of_getElem? (i := 146) rfl
theorem mm147 : (Jvm.Cond.instanceMethod ({ cls := "com/example/percurso/percurso/suite/PrefixTree", name := "child", desc := "(II)I" } : Jvm.MethodName)) ∈ tables_1 := List.mem_of_getElem? (i := 147) rfl
theorem mm148 : (Jvm.Cond.selects "com/example/percurso/percurso/suite/PrefixTree" ({ cls := "com/example/percurso/percurso/suite/PrefixTree", name := "child", desc := "(II)I" } : Jvm.MethodName) ({ cls := "com/example/percurso/percurso/suite/PrefixTree", name := "child", desc := "(II)I" } : Jvm.MethodName)) ∈ tables_1 := List.mem_of_getElem? (i := 148) rfl
theorem mm149 : (Jvm.Cond.code ({ cls := "com/example/percurso/percurso/suite/PrefixTree", name := "child", desc := "(II)I" } : Jvm.MethodName) prog_191_method_9_code (4 : Nat) (Option.some Jvm.ClassFile.FieldType.int)) ∈ tables_1 := List.mem_of_getElem? (i := 149) rfl
theorem mm150 : (Jvm.Cond.methodLink "com/example/percurso/percurso/suite/PrefixTree" (59 : Nat) ({ cls := "com/example/percurso/percurso/suite/PrefixTree", name := "link", desc := "(IIII)V" } : Jvm.MethodName)) ∈ tables_1 := List.mem_of_getElem? (i := 150) rfl
theorem mm151 : (Jvm.Cond.instanceMethod ({ cls := "com/example/percurso/percurso/suite/PrefixTree", name := "link", desc := "(IIII)V" } : Jvm.MethodName)) ∈ tables_1 := List.mem_of_getElem? (i := 151) rfl
theorem mm152 : (Jvm.Cond.privateMethod ({ cls := "com/example/percurso/percurso/suite/PrefixTree", name := "link", desc := "(IIII)V" } : Jvm.MethodName)) ∈ tables_1 := List.mem_of_getElem? (i := 152) rfl
theorem mm153 : (Jvm.Cond.code ({ cls := "com/example/percurso/percurso/suite/PrefixTree", name := "link", desc := "(IIII)V" } : Jvm.MethodName) prog_191_method_2_code (7 : Nat) (Option.none : Option Jvm.ClassFile.FieldType)) ∈ tables_1 := List.mem_of_getElem? (i := 153) rfl
theorem mm154 : (Jvm.Cond.fieldLink "com/example/percurso/percurso/suite/PrefixTree" (63 : Nat) "com/example/percurso/percurso/suite/PrefixTree" "size" "I") ∈ tables_1 := List.mem_of_getElem? (i := 154) rfl
theorem mm155 : (Jvm.Cond.laysFinal "com/example/percurso/percurso/suite/PrefixTree" "com/example/percurso/percurso/suite/PrefixTree" "size" "I") ∈ tables_1 := List.mem_of_getElem? (i := 155) rfl
theorem mm156 : (Jvm.Cond.methodLink "com/example/percurso/percurso/suite/PrefixTreeChildPinLaw" (24 : Nat) ({ cls := "com/example/percurso/percurso/suite/PrefixTree", name := "child", desc := "(II)I" } : Jvm.MethodName)) ∈ tables_1 := List.mem_of_getElem? (i := 156) rfl
def Done (p : Program) (e : Env) (below : List Frame) (P : State → Outcome → Prop) (A : State) : Prop := ∃ s₂ o, Steps p.tables e below A s₂ ∧ s₂.status = .running ∧ Ended s₂ below o ∧ P s₂ o
theorem Ds {p : Program} {e : Env} {below : List Frame} {P : State → Outcome → Prop} {A B : State} (k : ∀ t, Steps p.tables e below B t → Steps p.tables e below A t) (h : Done p e below P B) : Done p e below P A := by
  obtain ⟨s₂, o, h1, h2⟩ := h; exact ⟨s₂, o, k _ h1, h2⟩
theorem Done.fin {p : Program} {e : Env} {below : List Frame} {P : State → Outcome → Prop} {A U : State} {o : Outcome} (k : Steps p.tables e below A U) (h1 : U.status = .running) (h2 : Ended U below o) (h3 : P U o) : Done p e below P A := ⟨U, o, k, h1, h2, h3⟩
theorem d1_0 : decode jdk_38_method_2_code 0 = .ok (.aload_n 0, 1) := by decide +kernel
theorem d1_1 : decode jdk_38_method_2_code 1 = .ok (.invokespecial 1, 3) := by decide +kernel
theorem d1_4 : decode jdk_38_method_2_code 4 = .ok (.aload_n 0, 1) := by decide +kernel
theorem d1_5 : decode jdk_38_method_2_code 5 = .ok (.getstatic 39, 3) := by decide +kernel
theorem d1_8 : decode jdk_38_method_2_code 8 = .ok (.putfield 9, 3) := by decide +kernel
theorem d1_11 : decode jdk_38_method_2_code 11 = .ok (.return_, 1) := by decide +kernel
theorem d2_0 : decode jdk_39_method_1_code 0 = .ok (.aload_n 0, 1) := by decide +kernel
theorem d2_1 : decode jdk_39_method_1_code 1 = .ok (.invokespecial 1, 3) := by decide +kernel
theorem d2_4 : decode jdk_39_method_1_code 4 = .ok (.aload_n 0, 1) := by decide +kernel
theorem d2_5 : decode jdk_39_method_1_code 5 = .ok (.iconst 0, 1) := by decide +kernel
theorem d2_6 : decode jdk_39_method_1_code 6 = .ok (.putfield 7, 3) := by decide +kernel
theorem d2_9 : decode jdk_39_method_1_code 9 = .ok (.return_, 1) := by decide +kernel
theorem d3_0 : decode jdk_22_method_1_code 0 = .ok (.aload_n 0, 1) := by decide +kernel
theorem d3_1 : decode jdk_22_method_1_code 1 = .ok (.invokespecial 1, 3) := by decide +kernel
theorem d3_4 : decode jdk_22_method_1_code 4 = .ok (.return_, 1) := by decide +kernel
theorem d5_0 : decode jdk_38_method_25_code 0 = .ok (.aload_n 0, 1) := by decide +kernel
theorem d5_1 : decode jdk_38_method_25_code 1 = .ok (.dup, 1) := by decide +kernel
theorem d5_2 : decode jdk_38_method_25_code 2 = .ok (.getfield 63, 3) := by decide +kernel
theorem d5_5 : decode jdk_38_method_25_code 5 = .ok (.iconst 1, 1) := by decide +kernel
theorem d5_6 : decode jdk_38_method_25_code 6 = .ok (.iadd, 1) := by decide +kernel
theorem d5_7 : decode jdk_38_method_25_code 7 = .ok (.putfield 63, 3) := by decide +kernel
theorem d5_10 : decode jdk_38_method_25_code 10 = .ok (.aload_n 0, 1) := by decide +kernel
theorem d5_11 : decode jdk_38_method_25_code 11 = .ok (.aload_n 1, 1) := by decide +kernel
theorem d5_12 : decode jdk_38_method_25_code 12 = .ok (.aload_n 0, 1) := by decide +kernel
theorem d5_13 : decode jdk_38_method_25_code 13 = .ok (.getfield 9, 3) := by decide +kernel
theorem d5_16 : decode jdk_38_method_25_code 16 = .ok (.aload_n 0, 1) := by decide +kernel
theorem d5_17 : decode jdk_38_method_25_code 17 = .ok (.getfield 48, 3) := by decide +kernel
theorem d5_20 : decode jdk_38_method_25_code 20 = .ok (.invokevirtual 131, 3) := by decide +kernel
theorem d5_23 : decode jdk_38_method_25_code 23 = .ok (.iconst 1, 1) := by decide +kernel
theorem d5_24 : decode jdk_38_method_25_code 24 = .ok (.ireturn, 1) := by decide +kernel
theorem d6_0 : decode jdk_38_method_24_code 0 = .ok (.iload_n 3, 1) := by decide +kernel
theorem d6_1 : decode jdk_38_method_24_code 1 = .ok (.aload_n 2, 1) := by decide +kernel
theorem d6_2 : decode jdk_38_method_24_code 2 = .ok (.arraylength, 1) := by decide +kernel
theorem d6_3 : decode jdk_38_method_24_code 3 = .ok (.if_icmp .ne 8, 3) := by decide +kernel
theorem d6_6 : decode jdk_38_method_24_code 6 = .ok (.aload_n 0, 1) := by decide +kernel
theorem d6_7 : decode jdk_38_method_24_code 7 = .ok (.invokevirtual 129, 3) := by decide +kernel
theorem d6_10 : decode jdk_38_method_24_code 10 = .ok (.astore_n 2, 1) := by decide +kernel
theorem d6_11 : decode jdk_38_method_24_code 11 = .ok (.aload_n 2, 1) := by decide +kernel
theorem d6_12 : decode jdk_38_method_24_code 12 = .ok (.iload_n 3, 1) := by decide +kernel
theorem d6_13 : decode jdk_38_method_24_code 13 = .ok (.aload_n 1, 1) := by decide +kernel
theorem d6_14 : decode jdk_38_method_24_code 14 = .ok (.aastore, 1) := by decide +kernel
theorem d6_15 : decode jdk_38_method_24_code 15 = .ok (.aload_n 0, 1) := by decide +kernel
theorem d6_16 : decode jdk_38_method_24_code 16 = .ok (.iload_n 3, 1) := by decide +kernel
theorem d6_17 : decode jdk_38_method_24_code 17 = .ok (.iconst 1, 1) := by decide +kernel
theorem d6_18 : decode jdk_38_method_24_code 18 = .ok (.iadd, 1) := by decide +kernel
theorem d6_19 : decode jdk_38_method_24_code 19 = .ok (.putfield 48, 3) := by decide +kernel
theorem d6_22 : decode jdk_38_method_24_code 22 = .ok (.return_, 1) := by decide +kernel
theorem d7_0 : decode jdk_38_method_7_code 0 = .ok (.aload_n 0, 1) := by decide +kernel
theorem d7_1 : decode jdk_38_method_7_code 1 = .ok (.aload_n 0, 1) := by decide +kernel
theorem d7_2 : decode jdk_38_method_7_code 2 = .ok (.getfield 48, 3) := by decide +kernel
theorem d7_5 : decode jdk_38_method_7_code 5 = .ok (.iconst 1, 1) := by decide +kernel
theorem d7_6 : decode jdk_38_method_7_code 6 = .ok (.iadd, 1) := by decide +kernel
theorem d7_7 : decode jdk_38_method_7_code 7 = .ok (.invokevirtual 69, 3) := by decide +kernel
theorem d7_10 : decode jdk_38_method_7_code 10 = .ok (.areturn, 1) := by decide +kernel
theorem d8_0 : decode jdk_38_method_6_code 0 = .ok (.aload_n 0, 1) := by decide +kernel
theorem d8_1 : decode jdk_38_method_6_code 1 = .ok (.getfield 9, 3) := by decide +kernel
theorem d8_4 : decode jdk_38_method_6_code 4 = .ok (.arraylength, 1) := by decide +kernel
theorem d8_5 : decode jdk_38_method_6_code 5 = .ok (.istore_n 2, 1) := by decide +kernel
theorem d8_6 : decode jdk_38_method_6_code 6 = .ok (.iload_n 2, 1) := by decide +kernel
theorem d8_7 : decode jdk_38_method_6_code 7 = .ok (.ifCond .gt 13, 3) := by decide +kernel
theorem d8_10 : decode jdk_38_method_6_code 10 = .ok (.aload_n 0, 1) := by decide +kernel
theorem d8_11 : decode jdk_38_method_6_code 11 = .ok (.getfield 9, 3) := by decide +kernel
theorem d8_14 : decode jdk_38_method_6_code 14 = .ok (.getstatic 39, 3) := by decide +kernel
theorem d8_17 : decode jdk_38_method_6_code 17 = .ok (.if_acmp .eq 28, 3) := by decide +kernel
theorem d8_45 : decode jdk_38_method_6_code 45 = .ok (.aload_n 0, 1) := by decide +kernel
theorem d8_46 : decode jdk_38_method_6_code 46 = .ok (.bipush 10, 2) := by decide +kernel
theorem d8_48 : decode jdk_38_method_6_code 48 = .ok (.iload_n 1, 1) := by decide +kernel
theorem d8_49 : decode jdk_38_method_6_code 49 = .ok (.invokestatic 79, 3) := by decide +kernel
theorem d8_52 : decode jdk_38_method_6_code 52 = .ok (.anewarray 7, 3) := by decide +kernel
theorem d8_55 : decode jdk_38_method_6_code 55 = .ok (.dup_x1, 1) := by decide +kernel
theorem d8_56 : decode jdk_38_method_6_code 56 = .ok (.putfield 9, 3) := by decide +kernel
theorem d8_59 : decode jdk_38_method_6_code 59 = .ok (.areturn, 1) := by decide +kernel
theorem d9_0 : decode jdk_29_method_65_code 0 = .ok (.iload_n 0, 1) := by decide +kernel
theorem d9_1 : decode jdk_29_method_65_code 1 = .ok (.iload_n 1, 1) := by decide +kernel
theorem d9_2 : decode jdk_29_method_65_code 2 = .ok (.if_icmp .lt 7, 3) := by decide +kernel
theorem d9_5 : decode jdk_29_method_65_code 5 = .ok (.iload_n 0, 1) := by decide +kernel
theorem d9_6 : decode jdk_29_method_65_code 6 = .ok (.goto 4, 3) := by decide +kernel
theorem d9_9 : decode jdk_29_method_65_code 9 = .ok (.iload_n 1, 1) := by decide +kernel
theorem d9_10 : decode jdk_29_method_65_code 10 = .ok (.ireturn, 1) := by decide +kernel
theorem d10_0 : decode prog_193_method_1_code 0 = .ok (.aload_n 0, 1) := by decide +kernel
theorem d10_1 : decode prog_193_method_1_code 1 = .ok (.invokespecial 1, 3) := by decide +kernel
theorem d10_4 : decode prog_193_method_1_code 4 = .ok (.aload_n 0, 1) := by decide +kernel
theorem d10_5 : decode prog_193_method_1_code 5 = .ok (.aload_n 1, 1) := by decide +kernel
theorem d10_6 : decode prog_193_method_1_code 6 = .ok (.invokeinterface 7 1, 5) := by decide +kernel
theorem d10_11 : decode prog_193_method_1_code 11 = .ok (.anewarray 13, 3) := by decide +kernel
theorem d10_14 : decode prog_193_method_1_code 14 = .ok (.putfield 15, 3) := by decide +kernel
theorem d10_17 : decode prog_193_method_1_code 17 = .ok (.iconst 0, 1) := by decide +kernel
theorem d10_18 : decode prog_193_method_1_code 18 = .ok (.istore_n 2, 1) := by decide +kernel
theorem d10_19 : decode prog_193_method_1_code 19 = .ok (.iload_n 2, 1) := by decide +kernel
theorem d10_20 : decode prog_193_method_1_code 20 = .ok (.aload_n 0, 1) := by decide +kernel
theorem d10_21 : decode prog_193_method_1_code 21 = .ok (.getfield 15, 3) := by decide +kernel
theorem d10_24 : decode prog_193_method_1_code 24 = .ok (.arraylength, 1) := by decide +kernel
theorem d10_25 : decode prog_193_method_1_code 25 = .ok (.if_icmp .ge 31, 3) := by decide +kernel
theorem d10_28 : decode prog_193_method_1_code 28 = .ok (.aload_n 0, 1) := by decide +kernel
theorem d10_29 : decode prog_193_method_1_code 29 = .ok (.getfield 15, 3) := by decide +kernel
theorem d10_32 : decode prog_193_method_1_code 32 = .ok (.iload_n 2, 1) := by decide +kernel
theorem d10_33 : decode prog_193_method_1_code 33 = .ok (.aload_n 1, 1) := by decide +kernel
theorem d10_34 : decode prog_193_method_1_code 34 = .ok (.iload_n 2, 1) := by decide +kernel
theorem d10_35 : decode prog_193_method_1_code 35 = .ok (.invokeinterface 21 2, 5) := by decide +kernel
theorem d10_40 : decode prog_193_method_1_code 40 = .ok (.checkcast 13, 3) := by decide +kernel
theorem d10_43 : decode prog_193_method_1_code 43 = .ok (.invokevirtual 25, 3) := by decide +kernel
theorem d10_46 : decode prog_193_method_1_code 46 = .ok (.checkcast 13, 3) := by decide +kernel
theorem d10_49 : decode prog_193_method_1_code 49 = .ok (.aastore, 1) := by decide +kernel
theorem d10_50 : decode prog_193_method_1_code 50 = .ok (.iinc 2 1, 3) := by decide +kernel
theorem d10_53 : decode prog_193_method_1_code 53 = .ok (.goto (-34), 3) := by decide +kernel
theorem d10_56 : decode prog_193_method_1_code 56 = .ok (.return_, 1) := by decide +kernel
theorem d11_0 : decode jdk_38_method_8_code 0 = .ok (.aload_n 0, 1) := by decide +kernel
theorem d11_1 : decode jdk_38_method_8_code 1 = .ok (.getfield 48, 3) := by decide +kernel
theorem d11_4 : decode jdk_38_method_8_code 4 = .ok (.ireturn, 1) := by decide +kernel
theorem d12_0 : decode jdk_38_method_20_code 0 = .ok (.iload_n 1, 1) := by decide +kernel
theorem d12_1 : decode jdk_38_method_20_code 1 = .ok (.aload_n 0, 1) := by decide +kernel
theorem d12_2 : decode jdk_38_method_20_code 2 = .ok (.getfield 48, 3) := by decide +kernel
theorem d12_5 : decode jdk_38_method_20_code 5 = .ok (.invokestatic 118, 3) := by decide +kernel
theorem d12_8 : decode jdk_38_method_20_code 8 = .ok (.pop, 1) := by decide +kernel
theorem d12_9 : decode jdk_38_method_20_code 9 = .ok (.aload_n 0, 1) := by decide +kernel
theorem d12_10 : decode jdk_38_method_20_code 10 = .ok (.iload_n 1, 1) := by decide +kernel
theorem d12_11 : decode jdk_38_method_20_code 11 = .ok (.invokevirtual 123, 3) := by decide +kernel
theorem d12_14 : decode jdk_38_method_20_code 14 = .ok (.areturn, 1) := by decide +kernel
theorem d13_0 : decode jdk_31_method_17_code 0 = .ok (.iload_n 0, 1) := by decide +kernel
theorem d13_1 : decode jdk_31_method_17_code 1 = .ok (.iload_n 1, 1) := by decide +kernel
theorem d13_2 : decode jdk_31_method_17_code 2 = .ok (.aconst_null, 1) := by decide +kernel
theorem d13_3 : decode jdk_31_method_17_code 3 = .ok (.invokestatic 105, 3) := by decide +kernel
theorem d13_6 : decode jdk_31_method_17_code 6 = .ok (.ireturn, 1) := by decide +kernel
theorem d14_0 : decode jdk_41_method_11_code 0 = .ok (.iload_n 0, 1) := by decide +kernel
theorem d14_1 : decode jdk_41_method_11_code 1 = .ok (.ifCond .lt 8, 3) := by decide +kernel
theorem d14_4 : decode jdk_41_method_11_code 4 = .ok (.iload_n 0, 1) := by decide +kernel
theorem d14_5 : decode jdk_41_method_11_code 5 = .ok (.iload_n 1, 1) := by decide +kernel
theorem d14_6 : decode jdk_41_method_11_code 6 = .ok (.if_icmp .lt 10, 3) := by decide +kernel
theorem d14_16 : decode jdk_41_method_11_code 16 = .ok (.iload_n 0, 1) := by decide +kernel
theorem d14_17 : decode jdk_41_method_11_code 17 = .ok (.ireturn, 1) := by decide +kernel
theorem d15_0 : decode jdk_38_method_18_code 0 = .ok (.aload_n 0, 1) := by decide +kernel
theorem d15_1 : decode jdk_38_method_18_code 1 = .ok (.getfield 9, 3) := by decide +kernel
theorem d15_4 : decode jdk_38_method_18_code 4 = .ok (.iload_n 1, 1) := by decide +kernel
theorem d15_5 : decode jdk_38_method_18_code 5 = .ok (.aaload, 1) := by decide +kernel
theorem d15_6 : decode jdk_38_method_18_code 6 = .ok (.areturn, 1) := by decide +kernel
theorem d16_0 : decode prog_191_method_1_code 0 = .ok (.aload_n 0, 1) := by decide +kernel
theorem d16_1 : decode prog_191_method_1_code 1 = .ok (.invokespecial 1, 3) := by decide +kernel
theorem d16_4 : decode prog_191_method_1_code 4 = .ok (.aload_n 1, 1) := by decide +kernel
theorem d16_5 : decode prog_191_method_1_code 5 = .ok (.invokevirtual 7, 3) := by decide +kernel
theorem d16_8 : decode prog_191_method_1_code 8 = .ok (.lconst 1, 1) := by decide +kernel
theorem d16_9 : decode prog_191_method_1_code 9 = .ok (.ladd, 1) := by decide +kernel
theorem d16_10 : decode prog_191_method_1_code 10 = .ok (.lstore_n 2, 1) := by decide +kernel
theorem d16_11 : decode prog_191_method_1_code 11 = .ok (.lload_n 2, 1) := by decide +kernel
theorem d16_12 : decode prog_191_method_1_code 12 = .ok (.ldc2_w 15, 3) := by decide +kernel
theorem d16_15 : decode prog_191_method_1_code 15 = .ok (.lcmp, 1) := by decide +kernel
theorem d16_16 : decode prog_191_method_1_code 16 = .ok (.ifCond .le 20, 3) := by decide +kernel
theorem d16_36 : decode prog_191_method_1_code 36 = .ok (.lload_n 2, 1) := by decide +kernel
theorem d16_37 : decode prog_191_method_1_code 37 = .ok (.l2i, 1) := by decide +kernel
theorem d16_38 : decode prog_191_method_1_code 38 = .ok (.istore 4, 2) := by decide +kernel
theorem d16_40 : decode prog_191_method_1_code 40 = .ok (.aload_n 0, 1) := by decide +kernel
theorem d16_41 : decode prog_191_method_1_code 41 = .ok (.iload 4, 2) := by decide +kernel
theorem d16_43 : decode prog_191_method_1_code 43 = .ok (.newarray .int, 2) := by decide +kernel
theorem d16_45 : decode prog_191_method_1_code 45 = .ok (.putfield 26, 3) := by decide +kernel
theorem d16_48 : decode prog_191_method_1_code 48 = .ok (.aload_n 0, 1) := by decide +kernel
theorem d16_49 : decode prog_191_method_1_code 49 = .ok (.iload 4, 2) := by decide +kernel
theorem d16_51 : decode prog_191_method_1_code 51 = .ok (.newarray .int, 2) := by decide +kernel
theorem d16_53 : decode prog_191_method_1_code 53 = .ok (.putfield 32, 3) := by decide +kernel
theorem d16_56 : decode prog_191_method_1_code 56 = .ok (.aload_n 0, 1) := by decide +kernel
theorem d16_57 : decode prog_191_method_1_code 57 = .ok (.iload 4, 2) := by decide +kernel
theorem d16_59 : decode prog_191_method_1_code 59 = .ok (.newarray .int, 2) := by decide +kernel
theorem d16_61 : decode prog_191_method_1_code 61 = .ok (.putfield 35, 3) := by decide +kernel
theorem d16_64 : decode prog_191_method_1_code 64 = .ok (.aload_n 0, 1) := by decide +kernel
theorem d16_65 : decode prog_191_method_1_code 65 = .ok (.iload 4, 2) := by decide +kernel
theorem d16_67 : decode prog_191_method_1_code 67 = .ok (.newarray .int, 2) := by decide +kernel
theorem d16_69 : decode prog_191_method_1_code 69 = .ok (.putfield 38, 3) := by decide +kernel
theorem d16_72 : decode prog_191_method_1_code 72 = .ok (.aload_n 0, 1) := by decide +kernel
theorem d16_73 : decode prog_191_method_1_code 73 = .ok (.iload 4, 2) := by decide +kernel
theorem d16_75 : decode prog_191_method_1_code 75 = .ok (.newarray .int, 2) := by decide +kernel
theorem d16_77 : decode prog_191_method_1_code 77 = .ok (.putfield 41, 3) := by decide +kernel
theorem d16_80 : decode prog_191_method_1_code 80 = .ok (.aload_n 0, 1) := by decide +kernel
theorem d16_81 : decode prog_191_method_1_code 81 = .ok (.getfield 26, 3) := by decide +kernel
theorem d16_84 : decode prog_191_method_1_code 84 = .ok (.iconst 0, 1) := by decide +kernel
theorem d16_85 : decode prog_191_method_1_code 85 = .ok (.iconst (-1), 1) := by decide +kernel
theorem d16_86 : decode prog_191_method_1_code 86 = .ok (.iastore, 1) := by decide +kernel
theorem d16_87 : decode prog_191_method_1_code 87 = .ok (.aload_n 0, 1) := by decide +kernel
theorem d16_88 : decode prog_191_method_1_code 88 = .ok (.getfield 32, 3) := by decide +kernel
theorem d16_91 : decode prog_191_method_1_code 91 = .ok (.iconst 0, 1) := by decide +kernel
theorem d16_92 : decode prog_191_method_1_code 92 = .ok (.iconst (-1), 1) := by decide +kernel
theorem d16_93 : decode prog_191_method_1_code 93 = .ok (.iastore, 1) := by decide +kernel
theorem d16_94 : decode prog_191_method_1_code 94 = .ok (.aload_n 0, 1) := by decide +kernel
theorem d16_95 : decode prog_191_method_1_code 95 = .ok (.getfield 38, 3) := by decide +kernel
theorem d16_98 : decode prog_191_method_1_code 98 = .ok (.iconst 0, 1) := by decide +kernel
theorem d16_99 : decode prog_191_method_1_code 99 = .ok (.iconst (-1), 1) := by decide +kernel
theorem d16_100 : decode prog_191_method_1_code 100 = .ok (.iastore, 1) := by decide +kernel
theorem d16_101 : decode prog_191_method_1_code 101 = .ok (.aload_n 0, 1) := by decide +kernel
theorem d16_102 : decode prog_191_method_1_code 102 = .ok (.getfield 41, 3) := by decide +kernel
theorem d16_105 : decode prog_191_method_1_code 105 = .ok (.iconst 0, 1) := by decide +kernel
theorem d16_106 : decode prog_191_method_1_code 106 = .ok (.iconst (-1), 1) := by decide +kernel
theorem d16_107 : decode prog_191_method_1_code 107 = .ok (.iastore, 1) := by decide +kernel
theorem d16_108 : decode prog_191_method_1_code 108 = .ok (.iconst 1, 1) := by decide +kernel
theorem d16_109 : decode prog_191_method_1_code 109 = .ok (.istore 5, 2) := by decide +kernel
theorem d16_111 : decode prog_191_method_1_code 111 = .ok (.aload_n 1, 1) := by decide +kernel
theorem d16_112 : decode prog_191_method_1_code 112 = .ok (.invokevirtual 44, 3) := by decide +kernel
theorem d16_115 : decode prog_191_method_1_code 115 = .ok (.newarray .int, 2) := by decide +kernel
theorem d16_117 : decode prog_191_method_1_code 117 = .ok (.astore 6, 2) := by decide +kernel
theorem d16_119 : decode prog_191_method_1_code 119 = .ok (.aload_n 1, 1) := by decide +kernel
theorem d16_120 : decode prog_191_method_1_code 120 = .ok (.invokevirtual 44, 3) := by decide +kernel
theorem d16_123 : decode prog_191_method_1_code 123 = .ok (.newarray .int, 2) := by decide +kernel
theorem d16_125 : decode prog_191_method_1_code 125 = .ok (.astore 7, 2) := by decide +kernel
theorem d16_127 : decode prog_191_method_1_code 127 = .ok (.iconst 0, 1) := by decide +kernel
theorem d16_128 : decode prog_191_method_1_code 128 = .ok (.istore 8, 2) := by decide +kernel
theorem d16_130 : decode prog_191_method_1_code 130 = .ok (.iconst 0, 1) := by decide +kernel
theorem d16_131 : decode prog_191_method_1_code 131 = .ok (.istore 9, 2) := by decide +kernel
theorem d16_133 : decode prog_191_method_1_code 133 = .ok (.iload 9, 2) := by decide +kernel
theorem d16_135 : decode prog_191_method_1_code 135 = .ok (.aload_n 1, 1) := by decide +kernel
theorem d16_136 : decode prog_191_method_1_code 136 = .ok (.invokevirtual 44, 3) := by decide +kernel
theorem d16_139 : decode prog_191_method_1_code 139 = .ok (.if_icmp .ge 28, 3) := by decide +kernel
theorem d16_142 : decode prog_191_method_1_code 142 = .ok (.aload_n 1, 1) := by decide +kernel
theorem d16_143 : decode prog_191_method_1_code 143 = .ok (.iload 9, 2) := by decide +kernel
theorem d16_145 : decode prog_191_method_1_code 145 = .ok (.invokevirtual 48, 3) := by decide +kernel
theorem d16_148 : decode prog_191_method_1_code 148 = .ok (.ifCond .le 13, 3) := by decide +kernel
theorem d16_151 : decode prog_191_method_1_code 151 = .ok (.aload 6, 2) := by decide +kernel
theorem d16_153 : decode prog_191_method_1_code 153 = .ok (.iload 8, 2) := by decide +kernel
theorem d16_155 : decode prog_191_method_1_code 155 = .ok (.iinc 8 1, 3) := by decide +kernel
theorem d16_158 : decode prog_191_method_1_code 158 = .ok (.iload 9, 2) := by decide +kernel
theorem d16_160 : decode prog_191_method_1_code 160 = .ok (.iastore, 1) := by decide +kernel
theorem d16_161 : decode prog_191_method_1_code 161 = .ok (.iinc 9 1, 3) := by decide +kernel
theorem d16_164 : decode prog_191_method_1_code 164 = .ok (.goto (-31), 3) := by decide +kernel
theorem d16_167 : decode prog_191_method_1_code 167 = .ok (.iconst 0, 1) := by decide +kernel
theorem d16_168 : decode prog_191_method_1_code 168 = .ok (.istore 9, 2) := by decide +kernel
theorem d16_170 : decode prog_191_method_1_code 170 = .ok (.iload 8, 2) := by decide +kernel
theorem d16_172 : decode prog_191_method_1_code 172 = .ok (.ifCond .le 123, 3) := by decide +kernel
theorem d16_175 : decode prog_191_method_1_code 175 = .ok (.iconst 0, 1) := by decide +kernel
theorem d16_176 : decode prog_191_method_1_code 176 = .ok (.istore 10, 2) := by decide +kernel
theorem d16_178 : decode prog_191_method_1_code 178 = .ok (.iconst 0, 1) := by decide +kernel
theorem d16_179 : decode prog_191_method_1_code 179 = .ok (.istore 11, 2) := by decide +kernel
theorem d16_181 : decode prog_191_method_1_code 181 = .ok (.iload 11, 2) := by decide +kernel
theorem d16_183 : decode prog_191_method_1_code 183 = .ok (.iload 8, 2) := by decide +kernel
theorem d16_185 : decode prog_191_method_1_code 185 = .ok (.if_icmp .ge 100, 3) := by decide +kernel
theorem d16_188 : decode prog_191_method_1_code 188 = .ok (.aload 6, 2) := by decide +kernel
theorem d16_190 : decode prog_191_method_1_code 190 = .ok (.iload 11, 2) := by decide +kernel
theorem d16_192 : decode prog_191_method_1_code 192 = .ok (.iaload, 1) := by decide +kernel
theorem d16_193 : decode prog_191_method_1_code 193 = .ok (.istore 12, 2) := by decide +kernel
theorem d16_195 : decode prog_191_method_1_code 195 = .ok (.aload 7, 2) := by decide +kernel
theorem d16_197 : decode prog_191_method_1_code 197 = .ok (.iload 11, 2) := by decide +kernel
theorem d16_199 : decode prog_191_method_1_code 199 = .ok (.iaload, 1) := by decide +kernel
theorem d16_200 : decode prog_191_method_1_code 200 = .ok (.istore 13, 2) := by decide +kernel
theorem d16_202 : decode prog_191_method_1_code 202 = .ok (.aload_n 1, 1) := by decide +kernel
theorem d16_203 : decode prog_191_method_1_code 203 = .ok (.iload 12, 2) := by decide +kernel
theorem d16_205 : decode prog_191_method_1_code 205 = .ok (.iload 9, 2) := by decide +kernel
theorem d16_207 : decode prog_191_method_1_code 207 = .ok (.invokevirtual 52, 3) := by decide +kernel
theorem d16_210 : decode prog_191_method_1_code 210 = .ok (.istore 14, 2) := by decide +kernel
theorem d16_212 : decode prog_191_method_1_code 212 = .ok (.aload_n 0, 1) := by decide +kernel
theorem d16_213 : decode prog_191_method_1_code 213 = .ok (.iload 13, 2) := by decide +kernel
theorem d16_215 : decode prog_191_method_1_code 215 = .ok (.iload 14, 2) := by decide +kernel
theorem d16_217 : decode prog_191_method_1_code 217 = .ok (.invokevirtual 56, 3) := by decide +kernel
theorem d16_220 : decode prog_191_method_1_code 220 = .ok (.istore 15, 2) := by decide +kernel
theorem d16_222 : decode prog_191_method_1_code 222 = .ok (.iload 15, 2) := by decide +kernel
theorem d16_224 : decode prog_191_method_1_code 224 = .ok (.iconst (-1), 1) := by decide +kernel
theorem d16_225 : decode prog_191_method_1_code 225 = .ok (.if_icmp .ne 24, 3) := by decide +kernel
theorem d16_228 : decode prog_191_method_1_code 228 = .ok (.iload 5, 2) := by decide +kernel
theorem d16_230 : decode prog_191_method_1_code 230 = .ok (.iinc 5 1, 3) := by decide +kernel
theorem d16_233 : decode prog_191_method_1_code 233 = .ok (.istore 15, 2) := by decide +kernel
theorem d16_235 : decode prog_191_method_1_code 235 = .ok (.aload_n 0, 1) := by decide +kernel
theorem d16_236 : decode prog_191_method_1_code 236 = .ok (.iload 13, 2) := by decide +kernel
theorem d16_238 : decode prog_191_method_1_code 238 = .ok (.iload 14, 2) := by decide +kernel
theorem d16_240 : decode prog_191_method_1_code 240 = .ok (.iload 15, 2) := by decide +kernel
theorem d16_242 : decode prog_191_method_1_code 242 = .ok (.iload 9, 2) := by decide +kernel
theorem d16_244 : decode prog_191_method_1_code 244 = .ok (.iconst 1, 1) := by decide +kernel
theorem d16_245 : decode prog_191_method_1_code 245 = .ok (.iadd, 1) := by decide +kernel
theorem d16_246 : decode prog_191_method_1_code 246 = .ok (.invokevirtual 59, 3) := by decide +kernel
theorem d16_249 : decode prog_191_method_1_code 249 = .ok (.aload_n 1, 1) := by decide +kernel
theorem d16_250 : decode prog_191_method_1_code 250 = .ok (.iload 12, 2) := by decide +kernel
theorem d16_252 : decode prog_191_method_1_code 252 = .ok (.invokevirtual 48, 3) := by decide +kernel
theorem d16_255 : decode prog_191_method_1_code 255 = .ok (.iload 9, 2) := by decide +kernel
theorem d16_257 : decode prog_191_method_1_code 257 = .ok (.iconst 1, 1) := by decide +kernel
theorem d16_258 : decode prog_191_method_1_code 258 = .ok (.iadd, 1) := by decide +kernel
theorem d16_259 : decode prog_191_method_1_code 259 = .ok (.if_icmp .le 20, 3) := by decide +kernel
theorem d16_262 : decode prog_191_method_1_code 262 = .ok (.aload 6, 2) := by decide +kernel
theorem d16_264 : decode prog_191_method_1_code 264 = .ok (.iload 10, 2) := by decide +kernel
theorem d16_266 : decode prog_191_method_1_code 266 = .ok (.iload 12, 2) := by decide +kernel
theorem d16_268 : decode prog_191_method_1_code 268 = .ok (.iastore, 1) := by decide +kernel
theorem d16_269 : decode prog_191_method_1_code 269 = .ok (.aload 7, 2) := by decide +kernel
theorem d16_271 : decode prog_191_method_1_code 271 = .ok (.iload 10, 2) := by decide +kernel
theorem d16_273 : decode prog_191_method_1_code 273 = .ok (.iinc 10 1, 3) := by decide +kernel
theorem d16_276 : decode prog_191_method_1_code 276 = .ok (.iload 15, 2) := by decide +kernel
theorem d16_278 : decode prog_191_method_1_code 278 = .ok (.iastore, 1) := by decide +kernel
theorem d16_279 : decode prog_191_method_1_code 279 = .ok (.iinc 11 1, 3) := by decide +kernel
theorem d16_282 : decode prog_191_method_1_code 282 = .ok (.goto (-101), 3) := by decide +kernel
theorem d16_285 : decode prog_191_method_1_code 285 = .ok (.iload 10, 2) := by decide +kernel
theorem d16_287 : decode prog_191_method_1_code 287 = .ok (.istore 8, 2) := by decide +kernel
theorem d16_289 : decode prog_191_method_1_code 289 = .ok (.iinc 9 1, 3) := by decide +kernel
theorem d16_292 : decode prog_191_method_1_code 292 = .ok (.goto (-122), 3) := by decide +kernel
theorem d16_295 : decode prog_191_method_1_code 295 = .ok (.aload_n 0, 1) := by decide +kernel
theorem d16_296 : decode prog_191_method_1_code 296 = .ok (.iload 5, 2) := by decide +kernel
theorem d16_298 : decode prog_191_method_1_code 298 = .ok (.putfield 63, 3) := by decide +kernel
theorem d16_301 : decode prog_191_method_1_code 301 = .ok (.return_, 1) := by decide +kernel
theorem d17_0 : decode prog_193_method_7_code 0 = .ok (.lconst 0, 1) := by decide +kernel
theorem d17_1 : decode prog_193_method_7_code 1 = .ok (.lstore_n 1, 1) := by decide +kernel
theorem d17_2 : decode prog_193_method_7_code 2 = .ok (.aload_n 0, 1) := by decide +kernel
theorem d17_3 : decode prog_193_method_7_code 3 = .ok (.getfield 15, 3) := by decide +kernel
theorem d17_6 : decode prog_193_method_7_code 6 = .ok (.astore_n 3, 1) := by decide +kernel
theorem d17_7 : decode prog_193_method_7_code 7 = .ok (.aload_n 3, 1) := by decide +kernel
theorem d17_8 : decode prog_193_method_7_code 8 = .ok (.arraylength, 1) := by decide +kernel
theorem d17_9 : decode prog_193_method_7_code 9 = .ok (.istore 4, 2) := by decide +kernel
theorem d17_11 : decode prog_193_method_7_code 11 = .ok (.iconst 0, 1) := by decide +kernel
theorem d17_12 : decode prog_193_method_7_code 12 = .ok (.istore 5, 2) := by decide +kernel
theorem d17_14 : decode prog_193_method_7_code 14 = .ok (.iload 5, 2) := by decide +kernel
theorem d17_16 : decode prog_193_method_7_code 16 = .ok (.iload 4, 2) := by decide +kernel
theorem d17_18 : decode prog_193_method_7_code 18 = .ok (.if_icmp .ge 22, 3) := by decide +kernel
theorem d17_21 : decode prog_193_method_7_code 21 = .ok (.aload_n 3, 1) := by decide +kernel
theorem d17_22 : decode prog_193_method_7_code 22 = .ok (.iload 5, 2) := by decide +kernel
theorem d17_24 : decode prog_193_method_7_code 24 = .ok (.aaload, 1) := by decide +kernel
theorem d17_25 : decode prog_193_method_7_code 25 = .ok (.astore 6, 2) := by decide +kernel
theorem d17_27 : decode prog_193_method_7_code 27 = .ok (.lload_n 1, 1) := by decide +kernel
theorem d17_28 : decode prog_193_method_7_code 28 = .ok (.aload 6, 2) := by decide +kernel
theorem d17_30 : decode prog_193_method_7_code 30 = .ok (.arraylength, 1) := by decide +kernel
theorem d17_31 : decode prog_193_method_7_code 31 = .ok (.i2l, 1) := by decide +kernel
theorem d17_32 : decode prog_193_method_7_code 32 = .ok (.ladd, 1) := by decide +kernel
theorem d17_33 : decode prog_193_method_7_code 33 = .ok (.lstore_n 1, 1) := by decide +kernel
theorem d17_34 : decode prog_193_method_7_code 34 = .ok (.iinc 5 1, 3) := by decide +kernel
theorem d17_37 : decode prog_193_method_7_code 37 = .ok (.goto (-23), 3) := by decide +kernel
theorem d17_40 : decode prog_193_method_7_code 40 = .ok (.lload_n 1, 1) := by decide +kernel
theorem d17_41 : decode prog_193_method_7_code 41 = .ok (.lreturn, 1) := by decide +kernel
theorem d18_0 : decode prog_193_method_3_code 0 = .ok (.aload_n 0, 1) := by decide +kernel
theorem d18_1 : decode prog_193_method_3_code 1 = .ok (.getfield 15, 3) := by decide +kernel
theorem d18_4 : decode prog_193_method_3_code 4 = .ok (.arraylength, 1) := by decide +kernel
theorem d18_5 : decode prog_193_method_3_code 5 = .ok (.ireturn, 1) := by decide +kernel
theorem d19_0 : decode prog_193_method_4_code 0 = .ok (.aload_n 0, 1) := by decide +kernel
theorem d19_1 : decode prog_193_method_4_code 1 = .ok (.getfield 15, 3) := by decide +kernel
theorem d19_4 : decode prog_193_method_4_code 4 = .ok (.iload_n 1, 1) := by decide +kernel
theorem d19_5 : decode prog_193_method_4_code 5 = .ok (.aaload, 1) := by decide +kernel
theorem d19_6 : decode prog_193_method_4_code 6 = .ok (.arraylength, 1) := by decide +kernel
theorem d19_7 : decode prog_193_method_4_code 7 = .ok (.ireturn, 1) := by decide +kernel
theorem d20_0 : decode prog_193_method_6_code 0 = .ok (.aload_n 0, 1) := by decide +kernel
theorem d20_1 : decode prog_193_method_6_code 1 = .ok (.getfield 15, 3) := by decide +kernel
theorem d20_4 : decode prog_193_method_6_code 4 = .ok (.iload_n 1, 1) := by decide +kernel
theorem d20_5 : decode prog_193_method_6_code 5 = .ok (.aaload, 1) := by decide +kernel
theorem d20_6 : decode prog_193_method_6_code 6 = .ok (.iload_n 2, 1) := by decide +kernel
theorem d20_7 : decode prog_193_method_6_code 7 = .ok (.iaload, 1) := by decide +kernel
theorem d20_8 : decode prog_193_method_6_code 8 = .ok (.ireturn, 1) := by decide +kernel
theorem d21_0 : decode prog_191_method_9_code 0 = .ok (.aload_n 0, 1) := by decide +kernel
theorem d21_1 : decode prog_191_method_9_code 1 = .ok (.getfield 38, 3) := by decide +kernel
theorem d21_4 : decode prog_191_method_9_code 4 = .ok (.iload_n 1, 1) := by decide +kernel
theorem d21_5 : decode prog_191_method_9_code 5 = .ok (.iaload, 1) := by decide +kernel
theorem d21_6 : decode prog_191_method_9_code 6 = .ok (.istore_n 3, 1) := by decide +kernel
theorem d21_7 : decode prog_191_method_9_code 7 = .ok (.iload_n 3, 1) := by decide +kernel
theorem d21_8 : decode prog_191_method_9_code 8 = .ok (.iconst (-1), 1) := by decide +kernel
theorem d21_9 : decode prog_191_method_9_code 9 = .ok (.if_icmp .eq 39, 3) := by decide +kernel
theorem d21_12 : decode prog_191_method_9_code 12 = .ok (.aload_n 0, 1) := by decide +kernel
theorem d21_13 : decode prog_191_method_9_code 13 = .ok (.getfield 32, 3) := by decide +kernel
theorem d21_16 : decode prog_191_method_9_code 16 = .ok (.iload_n 3, 1) := by decide +kernel
theorem d21_17 : decode prog_191_method_9_code 17 = .ok (.iaload, 1) := by decide +kernel
theorem d21_18 : decode prog_191_method_9_code 18 = .ok (.iload_n 2, 1) := by decide +kernel
theorem d21_19 : decode prog_191_method_9_code 19 = .ok (.if_icmp .lt 19, 3) := by decide +kernel
theorem d21_22 : decode prog_191_method_9_code 22 = .ok (.aload_n 0, 1) := by decide +kernel
theorem d21_23 : decode prog_191_method_9_code 23 = .ok (.getfield 32, 3) := by decide +kernel
theorem d21_26 : decode prog_191_method_9_code 26 = .ok (.iload_n 3, 1) := by decide +kernel
theorem d21_27 : decode prog_191_method_9_code 27 = .ok (.iaload, 1) := by decide +kernel
theorem d21_28 : decode prog_191_method_9_code 28 = .ok (.iload_n 2, 1) := by decide +kernel
theorem d21_29 : decode prog_191_method_9_code 29 = .ok (.if_icmp .ne 7, 3) := by decide +kernel
theorem d21_32 : decode prog_191_method_9_code 32 = .ok (.iload_n 3, 1) := by decide +kernel
theorem d21_33 : decode prog_191_method_9_code 33 = .ok (.goto 4, 3) := by decide +kernel
theorem d21_36 : decode prog_191_method_9_code 36 = .ok (.iconst (-1), 1) := by decide +kernel
theorem d21_37 : decode prog_191_method_9_code 37 = .ok (.ireturn, 1) := by decide +kernel
theorem d21_38 : decode prog_191_method_9_code 38 = .ok (.aload_n 0, 1) := by decide +kernel
theorem d21_39 : decode prog_191_method_9_code 39 = .ok (.getfield 41, 3) := by decide +kernel
theorem d21_42 : decode prog_191_method_9_code 42 = .ok (.iload_n 3, 1) := by decide +kernel
theorem d21_43 : decode prog_191_method_9_code 43 = .ok (.iaload, 1) := by decide +kernel
theorem d21_44 : decode prog_191_method_9_code 44 = .ok (.istore_n 3, 1) := by decide +kernel
theorem d21_45 : decode prog_191_method_9_code 45 = .ok (.goto (-38), 3) := by decide +kernel
theorem d21_48 : decode prog_191_method_9_code 48 = .ok (.iconst (-1), 1) := by decide +kernel
theorem d21_49 : decode prog_191_method_9_code 49 = .ok (.ireturn, 1) := by decide +kernel
theorem d22_0 : decode prog_191_method_2_code 0 = .ok (.aload_n 0, 1) := by decide +kernel
theorem d22_1 : decode prog_191_method_2_code 1 = .ok (.getfield 26, 3) := by decide +kernel
theorem d22_4 : decode prog_191_method_2_code 4 = .ok (.iload_n 3, 1) := by decide +kernel
theorem d22_5 : decode prog_191_method_2_code 5 = .ok (.iload_n 1, 1) := by decide +kernel
theorem d22_6 : decode prog_191_method_2_code 6 = .ok (.iastore, 1) := by decide +kernel
theorem d22_7 : decode prog_191_method_2_code 7 = .ok (.aload_n 0, 1) := by decide +kernel
theorem d22_8 : decode prog_191_method_2_code 8 = .ok (.getfield 32, 3) := by decide +kernel
theorem d22_11 : decode prog_191_method_2_code 11 = .ok (.iload_n 3, 1) := by decide +kernel
theorem d22_12 : decode prog_191_method_2_code 12 = .ok (.iload_n 2, 1) := by decide +kernel
theorem d22_13 : decode prog_191_method_2_code 13 = .ok (.iastore, 1) := by decide +kernel
theorem d22_14 : decode prog_191_method_2_code 14 = .ok (.aload_n 0, 1) := by decide +kernel
theorem d22_15 : decode prog_191_method_2_code 15 = .ok (.getfield 35, 3) := by decide +kernel
theorem d22_18 : decode prog_191_method_2_code 18 = .ok (.iload_n 3, 1) := by decide +kernel
theorem d22_19 : decode prog_191_method_2_code 19 = .ok (.iload 4, 2) := by decide +kernel
theorem d22_21 : decode prog_191_method_2_code 21 = .ok (.iastore, 1) := by decide +kernel
theorem d22_22 : decode prog_191_method_2_code 22 = .ok (.aload_n 0, 1) := by decide +kernel
theorem d22_23 : decode prog_191_method_2_code 23 = .ok (.getfield 38, 3) := by decide +kernel
theorem d22_26 : decode prog_191_method_2_code 26 = .ok (.iload_n 3, 1) := by decide +kernel
theorem d22_27 : decode prog_191_method_2_code 27 = .ok (.iconst (-1), 1) := by decide +kernel
theorem d22_28 : decode prog_191_method_2_code 28 = .ok (.iastore, 1) := by decide +kernel
theorem d22_29 : decode prog_191_method_2_code 29 = .ok (.iconst (-1), 1) := by decide +kernel
theorem d22_30 : decode prog_191_method_2_code 30 = .ok (.istore 5, 2) := by decide +kernel
theorem d22_32 : decode prog_191_method_2_code 32 = .ok (.aload_n 0, 1) := by decide +kernel
theorem d22_33 : decode prog_191_method_2_code 33 = .ok (.getfield 38, 3) := by decide +kernel
theorem d22_36 : decode prog_191_method_2_code 36 = .ok (.iload_n 1, 1) := by decide +kernel
theorem d22_37 : decode prog_191_method_2_code 37 = .ok (.iaload, 1) := by decide +kernel
theorem d22_38 : decode prog_191_method_2_code 38 = .ok (.istore 6, 2) := by decide +kernel
theorem d22_40 : decode prog_191_method_2_code 40 = .ok (.iload 6, 2) := by decide +kernel
theorem d22_42 : decode prog_191_method_2_code 42 = .ok (.iconst (-1), 1) := by decide +kernel
theorem d22_43 : decode prog_191_method_2_code 43 = .ok (.if_icmp .eq 30, 3) := by decide +kernel
theorem d22_46 : decode prog_191_method_2_code 46 = .ok (.aload_n 0, 1) := by decide +kernel
theorem d22_47 : decode prog_191_method_2_code 47 = .ok (.getfield 32, 3) := by decide +kernel
theorem d22_50 : decode prog_191_method_2_code 50 = .ok (.iload 6, 2) := by decide +kernel
theorem d22_52 : decode prog_191_method_2_code 52 = .ok (.iaload, 1) := by decide +kernel
theorem d22_53 : decode prog_191_method_2_code 53 = .ok (.iload_n 2, 1) := by decide +kernel
theorem d22_54 : decode prog_191_method_2_code 54 = .ok (.if_icmp .ge 19, 3) := by decide +kernel
theorem d22_57 : decode prog_191_method_2_code 57 = .ok (.iload 6, 2) := by decide +kernel
theorem d22_59 : decode prog_191_method_2_code 59 = .ok (.istore 5, 2) := by decide +kernel
theorem d22_61 : decode prog_191_method_2_code 61 = .ok (.aload_n 0, 1) := by decide +kernel
theorem d22_62 : decode prog_191_method_2_code 62 = .ok (.getfield 41, 3) := by decide +kernel
theorem d22_65 : decode prog_191_method_2_code 65 = .ok (.iload 6, 2) := by decide +kernel
theorem d22_67 : decode prog_191_method_2_code 67 = .ok (.iaload, 1) := by decide +kernel
theorem d22_68 : decode prog_191_method_2_code 68 = .ok (.istore 6, 2) := by decide +kernel
theorem d22_70 : decode prog_191_method_2_code 70 = .ok (.goto (-30), 3) := by decide +kernel
theorem d22_73 : decode prog_191_method_2_code 73 = .ok (.aload_n 0, 1) := by decide +kernel
theorem d22_74 : decode prog_191_method_2_code 74 = .ok (.getfield 41, 3) := by decide +kernel
theorem d22_77 : decode prog_191_method_2_code 77 = .ok (.iload_n 3, 1) := by decide +kernel
theorem d22_78 : decode prog_191_method_2_code 78 = .ok (.iload 6, 2) := by decide +kernel
theorem d22_80 : decode prog_191_method_2_code 80 = .ok (.iastore, 1) := by decide +kernel
theorem d22_81 : decode prog_191_method_2_code 81 = .ok (.iload 5, 2) := by decide +kernel
theorem d22_83 : decode prog_191_method_2_code 83 = .ok (.iconst (-1), 1) := by decide +kernel
theorem d22_84 : decode prog_191_method_2_code 84 = .ok (.if_icmp .ne 13, 3) := by decide +kernel
theorem d22_87 : decode prog_191_method_2_code 87 = .ok (.aload_n 0, 1) := by decide +kernel
theorem d22_88 : decode prog_191_method_2_code 88 = .ok (.getfield 38, 3) := by decide +kernel
theorem d22_91 : decode prog_191_method_2_code 91 = .ok (.iload_n 1, 1) := by decide +kernel
theorem d22_92 : decode prog_191_method_2_code 92 = .ok (.iload_n 3, 1) := by decide +kernel
theorem d22_93 : decode prog_191_method_2_code 93 = .ok (.iastore, 1) := by decide +kernel
theorem d22_94 : decode prog_191_method_2_code 94 = .ok (.goto 11, 3) := by decide +kernel
theorem d22_97 : decode prog_191_method_2_code 97 = .ok (.aload_n 0, 1) := by decide +kernel
theorem d22_98 : decode prog_191_method_2_code 98 = .ok (.getfield 41, 3) := by decide +kernel
theorem d22_101 : decode prog_191_method_2_code 101 = .ok (.iload 5, 2) := by decide +kernel
theorem d22_103 : decode prog_191_method_2_code 103 = .ok (.iload_n 3, 1) := by decide +kernel
theorem d22_104 : decode prog_191_method_2_code 104 = .ok (.iastore, 1) := by decide +kernel
theorem d22_105 : decode prog_191_method_2_code 105 = .ok (.return_, 1) := by decide +kernel
theorem pn_0 : plainName "java/util/AbstractCollection" = true := by first | (simp [plainName, overriddenIn]; done) | decide +kernel
theorem pn_1 : plainName "java/util/AbstractList" = true := by first | (simp [plainName, overriddenIn]; done) | decide +kernel
theorem pn_2 : plainName "java/util/ArrayList" = true := by first | (simp [plainName, overriddenIn]; done) | decide +kernel
theorem pn_3 : plainName "jdk/internal/util/Preconditions" = true := by first | (simp [plainName, overriddenIn]; done) | decide +kernel
theorem pn_4 : plainName "java/util/Objects" = true := by first | (simp [plainName, overriddenIn]; done) | decide +kernel
theorem pn_5 : plainName "com/example/percurso/percurso/suite/Suite" = true := by first | (simp [plainName, overriddenIn]; done) | decide +kernel
theorem pn_6 : plainName "com/example/percurso/percurso/suite/PrefixTree" = true := by first | (simp [plainName, overriddenIn]; done) | decide +kernel
theorem pn_7 : plainName "com/example/percurso/percurso/suite/PrefixTreeChildPinLaw" = true := by first | (simp [plainName, overriddenIn]; done) | decide +kernel
theorem pd_0 : parseMethodDescriptor "()V" = some ⟨[], none⟩ := by decide +kernel
theorem pd_1 : parseMethodDescriptor "(II)I" = some ⟨[.int, .int], some .int⟩ := by decide +kernel
theorem pd_2 : parseMethodDescriptor "(I)[Ljava/lang/Object;" = some ⟨[.int], some (.array (.object "java/lang/Object"))⟩ := by decide +kernel
theorem pd_3 : parseMethodDescriptor "()[Ljava/lang/Object;" = some ⟨[], some (.array (.object "java/lang/Object"))⟩ := by decide +kernel
theorem pd_4 : parseMethodDescriptor "(Ljava/lang/Object;[Ljava/lang/Object;I)V" = some ⟨[(.object "java/lang/Object"), (.array (.object "java/lang/Object")), .int], none⟩ := by decide +kernel
theorem pd_5 : parseMethodDescriptor "(IILjava/util/function/BiFunction;)I" = some ⟨[.int, .int, (.object "java/util/function/BiFunction")], some .int⟩ := by decide +kernel
theorem pd_6 : parseMethodDescriptor "(I)Ljava/lang/Object;" = some ⟨[.int], some (.object "java/lang/Object")⟩ := by decide +kernel
theorem pd_7 : parseMethodDescriptor "()I" = some ⟨[], some .int⟩ := by decide +kernel
theorem pd_8 : parseMethodDescriptor "()J" = some ⟨[], some .long⟩ := by decide +kernel
theorem pd_9 : parseMethodDescriptor "(I)I" = some ⟨[.int], some .int⟩ := by decide +kernel
theorem pd_10 : parseMethodDescriptor "(IIII)V" = some ⟨[.int, .int, .int, .int], none⟩ := by decide +kernel
theorem pd_11 : parseMethodDescriptor "(Ljava/lang/Object;)Z" = some ⟨[(.object "java/lang/Object")], some .boolean⟩ := by decide +kernel
theorem pd_12 : parseMethodDescriptor "(Ljava/util/List;)V" = some ⟨[(.object "java/util/List")], none⟩ := by decide +kernel
theorem pd_13 : parseMethodDescriptor "(Lcom/example/percurso/percurso/suite/Suite;)V" = some ⟨[(.object "com/example/percurso/percurso/suite/Suite")], none⟩ := by decide +kernel
theorem own_eqv {a b : Term} {args : Array Value} {f s : State} {o : Option Outcome} {idx : List Nat} (h : (Cond.eq a b).value args f o s idx = some true) {v : Value} (hb : b.eval args f o idx s = some v) : a.eval args f o idx s = some v := by
  simp only [Cond.value] at h
  rw [hb] at h
  cases ha : a.eval args f o idx s with
  | none => rw [ha] at h; simp at h
  | some x => rw [ha] at h; cases x <;> cases v <;> simp_all

theorem own_ns_arv {Z : State} {h : Heap} {a : Addr} {k : ClassId} {ty : FieldType} {z : Int32} {vs : List Value} {d : Value} (F : Arv Z h a k ty z vs d) : ∃ c : Cell, h[a]? = some c ∧ c.vm.isStatics = false := by obtain ⟨c, A, _⟩ := F; exact ⟨c, A.1, A.plain⟩
theorem own_ns_exa {Z : State} {h : Heap} {a : Addr} {C : String} (E : Exa Z h a C) : ∃ c : Cell, h[a]? = some c ∧ c.vm.isStatics = false := by obtain ⟨c, _, h1, _, _, h2, _⟩ := E; exact ⟨c, h1, h2⟩
theorem own_sta_keep {Z : State} {h h' : Heap} {C n d : String} {v : Value} {ws : List Addr} (F : Sta Z h C n d v) (K : Keep h h' ws) (q : ∀ x ∈ ws, ∃ c : Cell, h[x]? = some c ∧ c.vm.isStatics = false) : Sta Z h' C n d v := by
  obtain ⟨cf, i, k, f, st, cell, h1, h2, h3, h4, h5, h6, h7⟩ := F
  refine ⟨cf, i, k, f, st, cell, h1, h2, h3, h4, K.2.1 _ _ h5 (fun hm => ?_), h6, h7⟩
  obtain ⟨c, e1, e2⟩ := q _ hm
  rw [h5] at e1
  cases e1
  rw [h6] at e2
  cases e2
theorem own_ins_keep {Z : State} {h h' : Heap} {a : Addr} {C : String} {b : Bool} {ws : List Addr} (F : Ins Z h a C b) (K : Keep h h' ws) : Ins Z h' a C b := by
  obtain ⟨c, cT, h1, h2, h3⟩ := F
  obtain ⟨c', e1, e2, e3, e4⟩ := K.2.2 _ _ h1
  exact ⟨c', cT, e1, h2, by rw [e2, e3]; exact h3⟩

def own_imax (a b : Int32) : Int32 := if a < b then b else a

def own_find : List (Int32 × Int32) → Int32 → Int32
  | [], _ => -1
  | (n, v) :: r, x => if v < x then own_find r x else if v = x then n else -1
def own_Ch (vi vn : List Value) : Int32 → List (Int32 × Int32) → Prop
  | f, [] => f = -1
  | f, (n, v) :: r => f = n ∧ (¬ n < 0 ∧ n < 5) ∧ vi.getD n.toNatClampNeg (.int 0) = .int v ∧ ∃ g, vn.getD n.toNatClampNeg (.int 0) = .int g ∧ own_Ch vi vn g r
def own_nb (a b : Int32) : Int32 := if b = a then 1 else 2
def own_cb (a b : Int32) : Int32 := if b = a then 2 else 3
def own_nc (a b c : Int32) : Int32 := if c = a then 1 else if c = b then own_nb a b else own_cb a b
def own_nd (a b c : Int32) : Int32 := if c = a then own_cb a b else if c = b then own_cb a b else own_cb a b + 1
def own_e0 (a b c x : Int32) : Int32 := if x = a then 1 else if x = b then own_nb a b else if x = c then own_nc a b c else -1
def own_ex (a b c d nb nc nd node x : Int32) : Int32 := if node = 0 then (if x = a then 1 else if x = b then nb else if x = c then nc else -1) else if node = 1 then (if x = d then nd else -1) else -1
def own_J (a b c cnt nb nc nd : Int32) : Prop := nb = own_nb a b ∧ nc = own_nc a b c ∧ nd = own_nd a b c ∧ cnt = own_nd a b c + 1
def own_T (a b c d : Int32) (vi vf vn : List Value) (f0 nd : Int32) (l0 : List (Int32 × Int32)) : Prop :=
  own_Ch vi vn f0 l0 ∧ l0.length ≤ 3 ∧ (∀ x, own_find l0 x = own_e0 a b c x) ∧ vf.getD (0 : Int32).toNatClampNeg (.int 0) = .int f0 ∧ nd = own_nd a b c ∧ vf.getD (1 : Int32).toNatClampNeg (.int 0) = .int nd ∧ own_Ch vi vn nd [(nd, d)] ∧ vf.getD (2 : Int32).toNatClampNeg (.int 0) = .int (-1) ∧ (nd = 2 ∨ (vf.getD (3 : Int32).toNatClampNeg (.int 0) = .int (-1) ∧ (nd = 3 ∨ (nd = 4 ∧ vf.getD (4 : Int32).toNatClampNeg (.int 0) = .int (-1)))))
theorem own_find_lt {n v x : Int32} {r : List (Int32 × Int32)} {y : Int32} (h : v < x) (q : own_find r x = y) : own_find ((n, v) :: r) x = y := (if_pos h).trans q
theorem own_find_eq {n v x : Int32} {r : List (Int32 × Int32)} (h : v = x) : own_find ((n, v) :: r) x = n := by subst h; simp [own_find, Int32.lt_irrefl]
theorem own_nlt {a b : Int32} (h : a < b) : ¬ b < a := by rw [Int32.lt_iff_toInt_lt] at *; omega
theorem own_nle {a b : Int32} (h : a < b) : ¬ a = b := by rw [← Int32.toInt_inj]; rw [Int32.lt_iff_toInt_lt] at h; omega
theorem own_ltt {a b c : Int32} (h : a < b) (g : b < c) : a < c := by rw [Int32.lt_iff_toInt_lt] at *; omega
theorem own_find_gt {n v x : Int32} {r : List (Int32 × Int32)} (h : x < v) : own_find ((n, v) :: r) x = -1 := by
  simp [own_find, own_nlt h, Ne.symm (own_nle h)]
theorem own_tri (a b : Int32) : a < b ∨ a = b ∨ b < a := by
  rw [Int32.lt_iff_toInt_lt, Int32.lt_iff_toInt_lt, ← Int32.toInt_inj]; omega
theorem own_f1 (n v x : Int32) : own_find [(n, v)] x = if x = v then n else -1 := by
  rcases own_tri v x with h | h | h
  · rw [own_find_lt h rfl, if_neg (Ne.symm (own_nle h))]; rfl
  · rw [own_find_eq h, if_pos h.symm]
  · rw [own_find_gt h, if_neg (own_nle h)]
theorem own_f2 {n v m w : Int32} (q : v < w) (x : Int32) : own_find [(n, v), (m, w)] x = if x = v then n else if x = w then m else -1 := by
  rcases own_tri v x with h | h | h
  · rw [own_find_lt h (own_f1 _ _ _), if_neg (Ne.symm (own_nle h))]
  · rw [own_find_eq h, if_pos h.symm]
  · rw [own_find_gt h, if_neg (own_nle h), if_neg (own_nle (own_ltt h q))]
theorem own_f3 {n v m w k u : Int32} (q : v < w) (q2 : w < u) (x : Int32) : own_find [(n, v), (m, w), (k, u)] x = if x = v then n else if x = w then m else if x = u then k else -1 := by
  rcases own_tri v x with h | h | h
  · rw [own_find_lt h (own_f2 q2 _), if_neg (Ne.symm (own_nle h))]
  · rw [own_find_eq h, if_pos h.symm]
  · rw [own_find_gt h, if_neg (own_nle h), if_neg (own_nle (own_ltt h q)), if_neg (own_nle (own_ltt h (own_ltt q q2)))]
-- the thirteen orders
theorem own_o1 {a b c : Int32} (h : a = b) (g : a = c) : (∀ x, own_find [(1, a)] x = own_e0 a b c x) ∧ 2 = own_nd a b c := by
  subst h g; exact ⟨fun x => by rw [own_f1]; by_cases h : x = a <;> simp [own_e0, h], by simp [own_nd, own_cb]⟩
theorem own_o2 {a b c : Int32} (h : a = b) (g : a < c) : (∀ x, own_find [(1, a), (2, c)] x = own_e0 a b c x) ∧ 3 = own_nd a b c := by
  subst h; have k := Ne.symm (own_nle g); exact ⟨fun x => by rw [own_f2 g]; by_cases h : x = a <;> simp [own_e0, own_nc, own_cb, h, k], by simp [own_nd, own_cb, k]⟩
theorem own_o3 {a b c : Int32} (h : a = b) (g : c < a) : (∀ x, own_find [(2, c), (1, a)] x = own_e0 a b c x) ∧ 3 = own_nd a b c := by
  subst h; have k := own_nle g; exact ⟨fun x => by rw [own_f2 g]; by_cases h : x = a <;> by_cases h' : x = c <;> simp_all [own_e0, own_nc, own_cb], by simp [own_nd, own_cb, k]⟩
theorem own_sw (x a b : Int32) (p q r : Int32) (h : ¬ a = b) : (if x = a then p else if x = b then q else r) = if x = b then q else if x = a then p else r := by
  by_cases g : x = a
  · subst g; simp [h]
  · simp [g]
theorem own_e2 {a b c x : Int32} (h : ¬ b = a) (g : c = a ∨ c = b) : own_e0 a b c x = (if x = a then 1 else if x = b then 2 else -1) ∧ 3 = own_nd a b c := by
  refine ⟨?_, ?_⟩
  · unfold own_e0 own_nb
    rw [if_neg h]
    by_cases p : x = a
    · rw [if_pos p, if_pos p]
    · rw [if_neg p, if_neg p]
      by_cases q : x = b
      · rw [if_pos q, if_pos q]
      · rw [if_neg q, if_neg q]
        refine if_neg fun r => ?_
        rcases g with g | g
        · exact p (r.trans g)
        · exact q (r.trans g)
  · rcases g with g | g
    · rw [own_nd, if_pos g, own_cb, if_neg h]
    · rw [own_nd, if_pos g, own_cb, if_neg h]; split <;> rfl
theorem own_p2 {a b c : Int32} (h : a < b) (g : c = a ∨ c = b) : (∀ x, own_find [(1, a), (2, b)] x = own_e0 a b c x) ∧ 3 = own_nd a b c :=
  ⟨fun x => by rw [own_f2 h, (own_e2 (Ne.symm (own_nle h)) g).1], (own_e2 (x := 0) (Ne.symm (own_nle h)) g).2⟩
theorem own_q2 {a b c : Int32} (h : b < a) (g : c = a ∨ c = b) : (∀ x, own_find [(2, b), (1, a)] x = own_e0 a b c x) ∧ 3 = own_nd a b c :=
  ⟨fun x => by rw [own_f2 h, (own_e2 (own_nle h) g).1, own_sw x b a _ _ _ (own_nle h)], (own_e2 (x := 0) (own_nle h) g).2⟩
theorem own_e3 {a b c x : Int32} (h : ¬ b = a) (g : ¬ c = a) (f : ¬ c = b) : own_e0 a b c x = (if x = a then 1 else if x = b then 2 else if x = c then 3 else -1) ∧ 4 = own_nd a b c := by
  simp [own_e0, own_nb, own_nc, own_cb, own_nd, h, g, f]
theorem own_r3 {a b c : Int32} {l : List (Int32 × Int32)} (h : ¬ b = a) (g : ¬ c = a) (f : ¬ c = b) (q : ∀ x, own_find l x = (if x = a then 1 else if x = b then 2 else if x = c then 3 else -1)) : (∀ x, own_find l x = own_e0 a b c x) ∧ 4 = own_nd a b c :=
  ⟨fun x => (q x).trans (own_e3 h g f).1.symm, (own_e3 (x := 0) h g f).2⟩
theorem own_abc {a b c : Int32} (h : a < b) (g : b < c) : (∀ x, own_find [(1, a), (2, b), (3, c)] x = own_e0 a b c x) ∧ 4 = own_nd a b c :=
  own_r3 (Ne.symm (own_nle h)) (Ne.symm (own_nle (own_ltt h g))) (Ne.symm (own_nle g)) fun x => own_f3 h g x
theorem own_acb {a b c : Int32} (h : a < c) (g : c < b) : (∀ x, own_find [(1, a), (3, c), (2, b)] x = own_e0 a b c x) ∧ 4 = own_nd a b c :=
  own_r3 (Ne.symm (own_nle (own_ltt h g))) (Ne.symm (own_nle h)) (own_nle g) fun x => by rw [own_f3 h g x, own_sw x c b _ _ _ (own_nle g)]
theorem own_cab {a b c : Int32} (h : c < a) (g : a < b) : (∀ x, own_find [(3, c), (1, a), (2, b)] x = own_e0 a b c x) ∧ 4 = own_nd a b c :=
  own_r3 (Ne.symm (own_nle g)) (own_nle h) (own_nle (own_ltt h g)) fun x => by rw [own_f3 h g x, own_sw x c a _ _ _ (own_nle h), own_sw x c b _ _ _ (own_nle (own_ltt h g))]
theorem own_bac {a b c : Int32} (h : b < a) (g : a < c) : (∀ x, own_find [(2, b), (1, a), (3, c)] x = own_e0 a b c x) ∧ 4 = own_nd a b c :=
  own_r3 (own_nle h) (Ne.symm (own_nle g)) (Ne.symm (own_nle (own_ltt h g))) fun x => by rw [own_f3 h g x, own_sw x b a _ _ _ (own_nle h)]
theorem own_bca {a b c : Int32} (h : b < c) (g : c < a) : (∀ x, own_find [(2, b), (3, c), (1, a)] x = own_e0 a b c x) ∧ 4 = own_nd a b c :=
  own_r3 (own_nle (own_ltt h g)) (own_nle g) (Ne.symm (own_nle h)) fun x => by rw [own_f3 h g x, own_sw x c a _ _ _ (own_nle g), own_sw x b a _ _ _ (own_nle (own_ltt h g))]
theorem own_cba {a b c : Int32} (h : c < b) (g : b < a) : (∀ x, own_find [(3, c), (2, b), (1, a)] x = own_e0 a b c x) ∧ 4 = own_nd a b c :=
  own_r3 (own_nle g) (own_nle (own_ltt h g)) (own_nle h) fun x => by rw [own_f3 h g x, own_sw x b a _ _ _ (own_nle g), own_sw x c a _ _ _ (own_nle (own_ltt h g)), own_sw x c b _ _ _ (own_nle h)]
-- the law's own roads
theorem own_j1 {a b c : Int32} (h : b = a) (g : c = a) : own_J a b c (2 + 1) 1 1 2 := by subst h g; simp [own_J, own_nb, own_nc, own_nd, own_cb]
theorem own_j2 {a b c : Int32} (h : b = a) (g : ¬ c = a) (f : ¬ c = b) : own_J a b c (3 + 1) 1 2 3 := by subst h; simp [own_J, own_nb, own_nc, own_nd, own_cb, g]
theorem own_j3 {a b c : Int32} (h : ¬ b = a) (g : c = a) : own_J a b c (3 + 1) 2 1 3 := by subst g; simp [own_J, own_nb, own_nc, own_nd, own_cb, h]
theorem own_j4 {a b c : Int32} (h : ¬ b = a) (g : ¬ c = a) (f : c = b) : own_J a b c (3 + 1) 2 2 3 := by subst f; simp [own_J, own_nb, own_nc, own_nd, own_cb, h]
theorem own_j5 {a b c : Int32} (h : ¬ b = a) (g : ¬ c = a) (f : ¬ c = b) : own_J a b c (4 + 1) 2 3 4 := by simp [own_J, own_nb, own_nc, own_nd, own_cb, h, g, f]
theorem own_ush (x : Int32) : 0 ≤ ((x.toUInt32 >>> ((3 : Int32) &&& 31).toUInt32).toInt32).toInt := by
  have e : ((3 : Int32) &&& 31).toUInt32 = 3 := by decide
  rw [e]
  have h1 : (x.toUInt32 >>> 3).toNat < 536870912 := by
    rw [UInt32.toNat_shiftRight]
    have := x.toUInt32.toNat_lt
    have e2 : (3 : UInt32).toNat % 32 = 3 := by decide
    rw [e2, Nat.shiftRight_eq_div_pow]
    omega
  have h2 : ((x.toUInt32 >>> 3).toInt32).toInt = (x.toUInt32 >>> 3).toNat := by
    show (x.toUInt32 >>> 3).toBitVec.toInt = _
    rw [BitVec.toInt_eq_toNat_of_lt]
    · rfl
    · have : (x.toUInt32 >>> 3).toBitVec.toNat = (x.toUInt32 >>> 3).toNat := rfl
      omega
  omega
theorem own_ndv (a b c : Int32) : own_nd a b c = 2 ∨ own_nd a b c = 3 ∨ own_nd a b c = 4 := by
  unfold own_nd own_cb; split <;> split <;> (try split) <;> simp
theorem own_cz {a b c cnt nb nc nd : Int32} (J : own_J a b c cnt nb nc nd) : cnt ≠ 0 := by
  obtain ⟨-, -, -, h⟩ := J
  rcases own_ndv a b c with q | q | q <;> rw [h, q] <;> decide
theorem own_node {a b c cnt nb nc nd : Int32} (J : own_J a b c cnt nb nc nd) (u : Int32) (hu : 0 ≤ u.toInt) : (¬ (u % cnt) < 0 ∧ (u % cnt) < 5) ∧ (u % cnt) < own_nd a b c + 1 := by
  obtain ⟨-, -, -, h⟩ := J
  have k0 : (0 : Int32).toInt = 0 := rfl
  have k5 : (5 : Int32).toInt = 5 := rfl
  have e := Int32.toInt_mod u cnt
  rw [Int.tmod_eq_emod_of_nonneg hu] at e
  simp only [Int32.lt_iff_toInt_lt, k0, k5]
  rcases own_ndv a b c with q | q | q
  · have k : cnt.toInt = 3 := by rw [h, q]; rfl
    have k' : (own_nd a b c + 1).toInt = 3 := by rw [q]; rfl
    rw [k] at e; omega
  · have k : cnt.toInt = 4 := by rw [h, q]; rfl
    have k' : (own_nd a b c + 1).toInt = 4 := by rw [q]; rfl
    rw [k] at e; omega
  · have k : cnt.toInt = 5 := by rw [h, q]; rfl
    have k' : (own_nd a b c + 1).toInt = 5 := by rw [q]; rfl
    rw [k] at e; omega
theorem own_rest {a b c nd n : Int32} {vf : List Value} (hnd : nd = own_nd a b c) (h2 : vf.getD (2 : Int32).toNatClampNeg (.int 0) = .int (-1)) (h3 : nd = 2 ∨ (vf.getD (3 : Int32).toNatClampNeg (.int 0) = .int (-1) ∧ (nd = 3 ∨ (nd = 4 ∧ vf.getD (4 : Int32).toNatClampNeg (.int 0) = .int (-1))))) (hb : ¬ n < 0 ∧ n < 5) (hl : n < own_nd a b c + 1) (z0 : ¬ n = 0) (z1 : ¬ n = 1) : vf.getD n.toNatClampNeg (.int 0) = .int (-1) := by
  have k0 : (0 : Int32).toInt = 0 := rfl
  have k1 : (1 : Int32).toInt = 1 := rfl
  have k2 : (2 : Int32).toInt = 2 := rfl
  have k3 : (3 : Int32).toInt = 3 := rfl
  have k4 : (4 : Int32).toInt = 4 := rfl
  have k5 : (5 : Int32).toInt = 5 := rfl
  have e : n = 2 ∨ n = 3 ∨ n = 4 := by
    simp only [← Int32.toInt_inj] at *
    rw [Int32.lt_iff_toInt_lt, Int32.lt_iff_toInt_lt] at hb
    omega
  have hq : ∀ m : Int32, own_nd a b c = m → n < m + 1 := fun m q => q ▸ hl
  rcases e with rfl | rfl | rfl
  · exact h2
  · rcases h3 with q | ⟨q, -⟩
    · exact absurd (hq 2 (hnd ▸ q)) (by decide)
    · exact q
  · rcases h3 with q | ⟨-, q | ⟨-, q⟩⟩
    · exact absurd (hq 2 (hnd ▸ q)) (by decide)
    · exact absurd (hq 3 (hnd ▸ q)) (by decide)
    · exact q
theorem own_res0 {a b c d cnt nb nc nd node x ex : Int32} (J : own_J a b c cnt nb nc nd) (h : ex = own_ex a b c d nb nc nd node x) (z : node = 0) : own_e0 a b c x = ex := by
  obtain ⟨rfl, rfl, -, -⟩ := J; rw [h, own_ex, if_pos z]; rfl
theorem own_res1 {a b c d cnt nb nc nd node x ex ndt : Int32} (J : own_J a b c cnt nb nc nd) (h : ex = own_ex a b c d nb nc nd node x) (z0 : ¬ node = 0) (z : node = 1) (q : ndt = own_nd a b c) : own_find [(ndt, d)] x = ex := by
  obtain ⟨-, -, rfl, -⟩ := J; rw [h, own_ex, if_neg z0, if_pos z, own_f1, q]
theorem own_res2 {a b c d cnt nb nc nd node x ex : Int32} (J : own_J a b c cnt nb nc nd) (h : ex = own_ex a b c d nb nc nd node x) (z0 : ¬ node = 0) (z : ¬ node = 1) : own_find [] x = ex := by
  rw [h, own_ex, if_neg z0, if_neg z]; rfl

theorem own_nm1 {n : Int32} (h : ¬ n < 0 ∧ n < 5) : ¬ n = (-1 : Int32) := fun q => h.1 (q ▸ (by decide))
theorem own_find_no {n v x : Int32} {r : List (Int32 × Int32)} (h : ¬ v < x) (g : ¬ v = x) : own_find ((n, v) :: r) x = -1 := by simp [own_find, h, g]

theorem own_selp {Z : State} {a0 : Array Value} {y : MethodName} {n : Nat} (w1 : (Cond.instantiable y.cls n).before a0 Z = true) (w2 : (Cond.privateMethod y).before a0 Z = true) (w3 : (Cond.instanceMethod y).before a0 Z = true) (hy : y.cls ≠ "java/lang/invoke/MethodHandle" ∧ y.cls ≠ "java/lang/invoke/VarHandle") : (Cond.selects y.cls y y).before a0 Z = true := by
  obtain ⟨c, k, h1, h2, -, h4, -⟩ := Cond.instantiable_spec w1
  exact Jvm.Stand.selects_self_of_private h1 h2 (by cases hi : k.isInterface <;> simp_all) (Cond.privateMethod_at w2) w3 hy

theorem own_len0 {Z : State} {args : Array Value} {t : Term} {a : Addr} {c : Cell} {ty : FieldType} (ev : t.eval args Z none [] Z = some (.ref a)) (A : Arr Z Z.heap a c ty) (h : (Cond.eq (.length t) (.int 0)).value args Z none Z [] = some true) : c.slots.size = 0 := by
  have e := own_eqv h (v := .int 0) rfl
  have q : Z.arrayAt? a = some c := Arr.fin (State.Warmed39.refl Z).alike A
  simp only [Term.eval, Option.bind_eq_bind, ev, Option.bind_some, q] at e
  by_cases hn : c.slots.size < 2147483648
  · rw [if_pos hn] at e
    have e2 : c.slots.size.toInt32 = (0 : Int32) := by simpa using e
    have e3 := congrArg Int32.toInt e2
    rw [show c.slots.size.toInt32.toInt = (c.slots.size : Int) from Int32.toInt_ofNat_of_lt (by omega)] at e3
    have k : (0 : Int32).toInt = 0 := rfl
    omega
  · rw [if_neg hn] at e
    cases e

theorem ef_rm9 (m : MethodId) (x : Int32) (y : Int32) : entryFrame m #[(.int x), (.int y)] 2 = mkF m 0 #[lI x, lI y] [] := by first | (simp [entryFrame, mkF, argsToLocals, Value.category]; done) | rfl
def Qrm9 (Z : State) (x : Int32) (y : Int32) (h0 : Heap) (n0 : Nat) (v : Option Value) (h : Heap) (L : List Loc) : Prop := v = some (.int (own_imax x y)) ∧ Fr n0 L ∧ h = h0
def Prm9 (s : State) (Z : State) (x : Int32) (y : Int32) (h0 : Heap) (n0 : Nat) : State → Outcome → Prop := fun U' o => ∃ v L, o = .returned v ∧ Qrm9 Z x y h0 n0 v U'.heap L ∧ FrameEnd s o U' L ({ frames := 0, cells := 0, slots := 0, locals := 0 } : Room).cells ({ frames := 0, cells := 0, slots := 0, locals := 0 } : Room).slots
set_option maxRecDepth 65536 in
set_option maxHeartbeats 40000000 in
theorem rm9 (l : Launch) (Z : State) (a0 : Array Value) (hw : ∀ d ∈ tables_1, d.before a0 Z = true) (ws : List Jvm.Cond) (x : Int32) (y : Int32) (h0 : Heap) (n0 : Nat) (Z0 : n0 ≤ h0.size) :
    MetFree l (⟨"java/lang/Math", "max", "(II)I"⟩ : MethodName) (head1 (Jvm.Cond.code (⟨"java/lang/Math", "max", "(II)I"⟩ : MethodName) jdk_29_method_65_code 2 (some .int) :: ws) ({ frames := 0, cells := 0, slots := 0, locals := 0 } : Room)) (fun aa U => aa = #[(.int x), (.int y)] ∧ Z.Warmed39 U.vm ∧ U.heap = h0) (fun _ _ _ _ _ => True) (fun _ U o U' => ∃ v L, o = .returned v ∧ Qrm9 Z x y h0 n0 v U'.heap L ∧ FrameEnd U o U' L ({ frames := 0, cells := 0, slots := 0, locals := 0 } : Room).cells ({ frames := 0, cells := 0, slots := 0, locals := 0 } : Room).slots) := by
  refine MetFree.of_bodySF (Jvm.Free.JP.mathPlain rfl (by decide +kernel)) hisR ?_
  intro p e s m args below meth c s₁ Bd hml0 hP hK
  obtain ⟨rfl, hZ, hh⟩ := hP
  have hx := Bd.exec
  have hlk : meth.locks = false := by first | exact BodyLoose.notSynchronized Bd | exact Body.notSynchronized Bd
  have hby := Bd.bytes
  have hml : c.maxLocals = 2 := hml0
  have hown : s.vm.findClass "java/lang/Math" = some m.cls := findClass_of_methodNamed Bd.named
  have hnm := (name_of_methodNamed Bd.named Bd.method).1
  have X0 : Stand p l e ({ frames := 0, cells := 0, slots := 0, locals := 0 } : Room) s m #[(.int x), (.int y)] below meth c s₁ [] 0 0 := Stand.of_body Bd
  have e0 : s₁.heap = h0 := by rw [← hh, Bd.state]; rfl
  have N0 := Fr.nil n0
  show Done p e below (Prm9 s Z x y h0 n0) (s₁.setTop (entryFrame m #[(.int x), (.int y)] 2))
  refine Ds (B := s₁.setTop (mkF m 0 #[lI x, lI y] [])) (fun _ k => castTop (ef_rm9 m x y) k) ?_
  refine Ds (B := s₁.setTop (mkF m 2 #[lI x, lI y] [(.int y), (.int x)])) (fun _ k => XS.iloadN X0.here hx rfl (hb hby d9_0) rfl (XS.iloadN X0.here hx rfl (hb hby d9_1) rfl k)) ?_
  by_cases hc2 : x < y
  · refine Ds (B := s₁.setTop (mkF m 10 #[lI x, lI y] [(.int y)])) (fun _ k => XS.icmpYes X0.here hx rfl (pc0 := 2) (pc' := 9) rfl (hb hby d9_2) rfl (tlt hc2).1 (by decide) (by decide) (XS.iloadN X0.here hx rfl (hb hby d9_9) rfl k)) ?_
    obtain ⟨fs, hr, hrun, hended, hW, hsame⟩ := X0.leave (v := some (.int y)) (hlocks := hlk) (fun h => by rw [Bd.returns] at h; cases h)
    refine Done.fin (retI X0 hx Bd.returns (hb hby d9_10) hr) hrun hended ⟨_, _, rfl, ?_, ⟨_, rfl⟩, hW, hsame.mono (by decide) (by decide)⟩
    show Qrm9 Z x y h0 n0 _ s₁.heap _
    rw [e0]
    exact ⟨by simp [own_imax, hc2], N0, rfl⟩
  · refine Ds (B := s₁.setTop (mkF m 10 #[lI x, lI y] [(.int x)])) (fun _ k => XS.icmpNo X0.here hx rfl (hb hby d9_2) rfl (flt hc2).1 (XS.iloadN X0.here hx rfl (hb hby d9_5) rfl (XS.goto X0.here hx rfl (pc0 := 6) (pc' := 10) rfl (hb hby d9_6) (by decide) (by decide) k))) ?_
    obtain ⟨fs, hr, hrun, hended, hW, hsame⟩ := X0.leave (v := some (.int x)) (hlocks := hlk) (fun h => by rw [Bd.returns] at h; cases h)
    refine Done.fin (retI X0 hx Bd.returns (hb hby d9_10) hr) hrun hended ⟨_, _, rfl, ?_, ⟨_, rfl⟩, hW, hsame.mono (by decide) (by decide)⟩
    show Qrm9 Z x y h0 n0 _ s₁.heap _
    rw [e0]
    exact ⟨by simp [own_imax, hc2], N0, rfl⟩
theorem ef_rm3 (m : MethodId) (a : Addr) : entryFrame m #[(.ref a)] 1 = mkF m 0 #[lR a] [] := by first | (simp [entryFrame, mkF, argsToLocals, Value.category]; done) | rfl
def Qrm3 (Z : State) (a : Addr) (h0 : Heap) (n0 : Nat) (v : Option Value) (h : Heap) (L : List Loc) : Prop := v = none ∧ Fr n0 L ∧ h = h0
def Prm3 (s : State) (Z : State) (a : Addr) (h0 : Heap) (n0 : Nat) : State → Outcome → Prop := fun U' o => ∃ v L, o = .returned v ∧ Qrm3 Z a h0 n0 v U'.heap L ∧ FrameEnd s o U' L ({ frames := 1, cells := 0, slots := 0, locals := 12 } : Room).cells ({ frames := 1, cells := 0, slots := 0, locals := 12 } : Room).slots
set_option maxRecDepth 65536 in
set_option maxHeartbeats 40000000 in
theorem rm3 (l : Launch) (Z : State) (a0 : Array Value) (hw : ∀ d ∈ tables_1, d.before a0 Z = true) (ws : List Jvm.Cond) (a : Addr) (h0 : Heap) (n0 : Nat) (Z0 : n0 ≤ h0.size) :
    MetFree l (⟨"java/util/AbstractCollection", "<init>", "()V"⟩ : MethodName) (head1 (Jvm.Cond.code (⟨"java/util/AbstractCollection", "<init>", "()V"⟩ : MethodName) jdk_22_method_1_code 1 none :: ws) ({ frames := 1, cells := 0, slots := 0, locals := 12 } : Room)) (fun aa U => aa = #[(.ref a)] ∧ Z.Warmed39 U.vm ∧ U.heap = h0) (fun _ _ _ _ _ => True) (fun _ U o U' => ∃ v L, o = .returned v ∧ Qrm3 Z a h0 n0 v U'.heap L ∧ FrameEnd U o U' L ({ frames := 1, cells := 0, slots := 0, locals := 12 } : Room).cells ({ frames := 1, cells := 0, slots := 0, locals := 12 } : Room).slots) := by
  refine MetFree.of_bodySF (plainFor_of_name pn_0) hisR ?_
  intro p e s m args below meth c s₁ Bd hml0 hP hK
  obtain ⟨rfl, hZ, hh⟩ := hP
  have hx := Bd.exec
  have hlk : meth.locks = false := by first | exact BodyLoose.notSynchronized Bd | exact Body.notSynchronized Bd
  have hby := Bd.bytes
  have hml : c.maxLocals = 1 := hml0
  have hown : s.vm.findClass "java/util/AbstractCollection" = some m.cls := findClass_of_methodNamed Bd.named
  have hnm := (name_of_methodNamed Bd.named Bd.method).1
  have X0 : Stand p l e ({ frames := 1, cells := 0, slots := 0, locals := 12 } : Room) s m #[(.ref a)] below meth c s₁ [] 0 0 := Stand.of_body Bd
  have e0 : s₁.heap = h0 := by rw [← hh, Bd.state]; rfl
  have N0 := Fr.nil n0
  show Done p e below (Prm3 s Z a h0 n0) (s₁.setTop (entryFrame m #[(.ref a)] 1))
  refine Ds (B := s₁.setTop (mkF m 0 #[lR a] [])) (fun _ k => castTop (ef_rm3 m a) k) ?_
  refine Ds (B := s₁.setTop (mkF m 1 #[lR a] [(.ref a)])) (fun _ k => XS.aloadN X0.here hx rfl (hb hby d3_0) rfl rfl k) ?_
  obtain ⟨T1, X1, e1, st1⟩ := initO X0 hx hZ hown (hw _ mm18) (hw _ mm19) (hw _ mm20) e0 (g := (mkF m 1 #[lR a] [(.ref a)])) rfl (by rw [hml]; rfl) rfl (hb hby d3_1) (by decide) (W := 0) (by show 2 * 0 + _ ≤ _; exact Nat.le_of_eq rfl) (by decide)
  refine Ds (B := T1.setTop (mkF m 4 #[lR a] [])) (fun _ k => st1 _ k) ?_
  obtain ⟨fs, hr, hrun, hended, hW, hsame⟩ := X1.leave (v := none) (hlocks := hlk) (fun _ => rfl)
  refine Done.fin (X1.returnOut hx Bd.returns (hb hby d3_4) hr) hrun hended ⟨_, _, rfl, ?_, ⟨_, rfl⟩, hW, hsame.mono (by decide) (by decide)⟩
  show Qrm3 Z a h0 n0 _ T1.heap _
  rw [e1]
  exact ⟨rfl, N0, rfl⟩
theorem ef_rm2 (m : MethodId) (a : Addr) : entryFrame m #[(.ref a)] 1 = mkF m 0 #[lR a] [] := by first | (simp [entryFrame, mkF, argsToLocals, Value.category]; done) | rfl
def Qrm2 (Z : State) (a : Addr) (h0 : Heap) (n0 : Nat) (v : Option Value) (h : Heap) (L : List Loc) : Prop := v = none ∧ Fr n0 L ∧ Keep h0 h [a] ∧ Exa Z h a "java/util/ArrayList" ∧ Fld Z h a "java/util/AbstractList" "modCount" "I" (.int 0) ∧ Fld Z h a "java/util/ArrayList" "elementData" "[Ljava/lang/Object;" .null ∧ Fld Z h a "java/util/ArrayList" "size" "I" (.int 0)
def Prm2 (s : State) (Z : State) (a : Addr) (h0 : Heap) (n0 : Nat) : State → Outcome → Prop := fun U' o => ∃ v L, o = .returned v ∧ Qrm2 Z a h0 n0 v U'.heap L ∧ FrameEnd s o U' L ({ frames := 2, cells := 0, slots := 0, locals := 24 } : Room).cells ({ frames := 2, cells := 0, slots := 0, locals := 24 } : Room).slots
set_option maxRecDepth 65536 in
set_option maxHeartbeats 40000000 in
theorem rm2 (l : Launch) (Z : State) (a0 : Array Value) (hw : ∀ d ∈ tables_1, d.before a0 Z = true) (ws : List Jvm.Cond) (a : Addr) (h0 : Heap) (n0 : Nat) (Z0 : n0 ≤ h0.size) (Ea : Exa Z h0 a "java/util/ArrayList") (Fm : Fld Z h0 a "java/util/AbstractList" "modCount" "I" (.int 0)) (Fe : Fld Z h0 a "java/util/ArrayList" "elementData" "[Ljava/lang/Object;" .null) (Fs : Fld Z h0 a "java/util/ArrayList" "size" "I" (.int 0)) (ga : n0 ≤ a) :
    MetFree l (⟨"java/util/AbstractList", "<init>", "()V"⟩ : MethodName) (head1 (Jvm.Cond.code (⟨"java/util/AbstractList", "<init>", "()V"⟩ : MethodName) jdk_39_method_1_code 1 none :: ws) ({ frames := 2, cells := 0, slots := 0, locals := 24 } : Room)) (fun aa U => aa = #[(.ref a)] ∧ Z.Warmed39 U.vm ∧ U.heap = h0) (fun _ _ _ _ _ => True) (fun _ U o U' => ∃ v L, o = .returned v ∧ Qrm2 Z a h0 n0 v U'.heap L ∧ FrameEnd U o U' L ({ frames := 2, cells := 0, slots := 0, locals := 24 } : Room).cells ({ frames := 2, cells := 0, slots := 0, locals := 24 } : Room).slots) := by
  refine MetFree.of_bodySF (plainFor_of_name pn_1) hisR ?_
  intro p e s m args below meth c s₁ Bd hml0 hP hK
  obtain ⟨rfl, hZ, hh⟩ := hP
  have hx := Bd.exec
  have hlk : meth.locks = false := by first | exact BodyLoose.notSynchronized Bd | exact Body.notSynchronized Bd
  have hby := Bd.bytes
  have hml : c.maxLocals = 1 := hml0
  have hown : s.vm.findClass "java/util/AbstractList" = some m.cls := findClass_of_methodNamed Bd.named
  have hnm := (name_of_methodNamed Bd.named Bd.method).1
  have X0 : Stand p l e ({ frames := 2, cells := 0, slots := 0, locals := 24 } : Room) s m #[(.ref a)] below meth c s₁ [] 0 0 := Stand.of_body Bd
  have e0 : s₁.heap = h0 := by rw [← hh, Bd.state]; rfl
  have N0 := Fr.nil n0
  show Done p e below (Prm2 s Z a h0 n0) (s₁.setTop (entryFrame m #[(.ref a)] 1))
  refine Ds (B := s₁.setTop (mkF m 0 #[lR a] [])) (fun _ k => castTop (ef_rm2 m a) k) ?_
  refine Ds (B := s₁.setTop (mkF m 1 #[lR a] [(.ref a)])) (fun _ k => XS.aloadN X0.here hx rfl (hb hby d2_0) rfl rfl k) ?_
  obtain ⟨_, _, ⟨T1, L1, k1, n1⟩, -, X1, ⟨Lc1, hQ1, l1, y1, z1⟩, st1⟩ := X0.specialBack hx (y := (⟨"java/util/AbstractCollection", "<init>", "()V"⟩ : MethodName)) rfl hown (mvT hZ (hw _ mm12)) (mvT hZ (hw _ mm13)) (mvT hZ (hw _ mm17)) (by decide) (backOf (W := 0) (rm3 l Z a0 hw [] a h0 n0 Z0) hZ (hw _ mm17) (hw _ mm16) (by decide) (by decide)) (g := (mkF m 1 #[lR a] [(.ref a)])) rfl (by rw [hml]; rfl) (Steps.refl _) (a := a) (argsL := []) (rest := []) (lenOf pd_0 rfl) rfl (by show 2 * 0 + _ ≤ _; exact Nat.le_of_eq rfl) (hb hby d2_1) (fun _ _ => ⟨rfl, e0, (by decide : 0 + 0 ≤ _), (by decide : 0 + 0 ≤ _)⟩)
  dsimp only [Pt.U, Pt.locs, Pt.cells, Pt.slots] at X1 l1 y1 z1 st1 hQ1
  rw [l1, y1, z1] at X1
  obtain ⟨hv1, N1q, e1⟩ := hQ1
  rw [hv1] at st1
  have N1 := Fr.app N0 N1q
  refine Ds (B := T1.setTop (mkF m 4 #[lR a] [])) (fun _ k => st1.trans k) ?_
  refine Ds (B := T1.setTop (mkF m 6 #[lR a] [(.int 0), (.ref a)])) (fun _ k => XS.aloadN X1.here hx rfl (hb hby d2_4) rfl rfl (XS.iconst X1.here hx rfl (hb hby d2_5) k)) ?_
  obtain ⟨T2, h2, X2, e2, W2, st2⟩ := putF X1 hx hZ hown (host := "") (Or.inl (hw _ mm21)) Via.refl e1 Fm Ea (Or.inl (hw _ mm22)) (hw _ mm1) (ty := .int) (by decide) rfl rfl (g := (mkF m 6 #[lR a] [(.int 0), (.ref a)])) rfl rfl (hb hby d2_6)
  have F2 := Fld.same W2 Fm
  have N2 := Fr.snoc X2 N1 ga
  have Z2 : n0 ≤ h2.size := Nat.le_trans Z0 (Keep.of_wr W2).1
  have KK2 : Keep h0 h2 [a] := ((Keep.refl h0 [a])).wr W2 (Or.inl (List.mem_of_getElem? (i := 0) rfl))
  refine Ds (B := T2.setTop (mkF m 9 #[lR a] [])) (fun _ k => st2 _ k) ?_
  obtain ⟨fs, hr, hrun, hended, hW, hsame⟩ := X2.leave (v := none) (hlocks := hlk) (fun _ => rfl)
  have c4 := (Exa.wr W2 Ea)
  have c5 := (Fld.other W2 Fe (Or.inr (slot_ne (Or.inl (hw _ mm25)) (Or.inl (hw _ mm22)) (by decide) (t := (.array (.object "java/lang/Object"))) (t' := .int) (by decide) (by decide))))
  have c6 := (Fld.other W2 Fs (Or.inr (slot_ne (Or.inl (hw _ mm35)) (Or.inl (hw _ mm22)) (by decide) (t := .int) (t' := .int) (by decide) (by decide))))
  refine Done.fin (X2.returnOut hx Bd.returns (hb hby d2_9) hr) hrun hended ⟨_, _, rfl, ?_, ⟨_, rfl⟩, hW, hsame.mono (by decide) (by decide)⟩
  show Qrm2 Z a h0 n0 _ T2.heap _
  rw [e2]
  exact ⟨rfl, N2, KK2, c4, F2, c5, c6⟩
theorem ef_rm1 (m : MethodId) (a : Addr) : entryFrame m #[(.ref a)] 1 = mkF m 0 #[lR a] [] := by first | (simp [entryFrame, mkF, argsToLocals, Value.category]; done) | rfl
def Qrm1 (Z : State) (a : Addr) (w : Addr) (h0 : Heap) (n0 : Nat) (v : Option Value) (h : Heap) (L : List Loc) : Prop := v = none ∧ Fr n0 L ∧ Keep h0 h [a] ∧ Exa Z h a "java/util/ArrayList" ∧ Fld Z h a "java/util/AbstractList" "modCount" "I" (.int 0) ∧ Fld Z h a "java/util/ArrayList" "elementData" "[Ljava/lang/Object;" (.ref w) ∧ Fld Z h a "java/util/ArrayList" "size" "I" (.int 0)
def Prm1 (s : State) (Z : State) (a : Addr) (w : Addr) (h0 : Heap) (n0 : Nat) : State → Outcome → Prop := fun U' o => ∃ v L, o = .returned v ∧ Qrm1 Z a w h0 n0 v U'.heap L ∧ FrameEnd s o U' L ({ frames := 3, cells := 0, slots := 0, locals := 36 } : Room).cells ({ frames := 3, cells := 0, slots := 0, locals := 36 } : Room).slots
set_option maxRecDepth 65536 in
set_option maxHeartbeats 40000000 in
theorem rm1 (l : Launch) (Z : State) (a0 : Array Value) (hw : ∀ d ∈ tables_1, d.before a0 Z = true) (ws : List Jvm.Cond) (a : Addr) (w : Addr) (h0 : Heap) (n0 : Nat) (Z0 : n0 ≤ h0.size) (Ea : Exa Z h0 a "java/util/ArrayList") (Fm : Fld Z h0 a "java/util/AbstractList" "modCount" "I" (.int 0)) (Fe : Fld Z h0 a "java/util/ArrayList" "elementData" "[Ljava/lang/Object;" .null) (Fs : Fld Z h0 a "java/util/ArrayList" "size" "I" (.int 0)) (ga : n0 ≤ a) (S_D : Sta Z h0 "java/util/ArrayList" "DEFAULTCAPACITY_EMPTY_ELEMENTDATA" "[Ljava/lang/Object;" (.ref w)) :
    MetFree l (⟨"java/util/ArrayList", "<init>", "()V"⟩ : MethodName) (head1 (Jvm.Cond.code (⟨"java/util/ArrayList", "<init>", "()V"⟩ : MethodName) jdk_38_method_2_code 1 none :: ws) ({ frames := 3, cells := 0, slots := 0, locals := 36 } : Room)) (fun aa U => aa = #[(.ref a)] ∧ Z.Warmed39 U.vm ∧ U.heap = h0) (fun _ _ _ _ _ => True) (fun _ U o U' => ∃ v L, o = .returned v ∧ Qrm1 Z a w h0 n0 v U'.heap L ∧ FrameEnd U o U' L ({ frames := 3, cells := 0, slots := 0, locals := 36 } : Room).cells ({ frames := 3, cells := 0, slots := 0, locals := 36 } : Room).slots) := by
  refine MetFree.of_bodySF (plainFor_of_name pn_2) hisR ?_
  intro p e s m args below meth c s₁ Bd hml0 hP hK
  obtain ⟨rfl, hZ, hh⟩ := hP
  have hx := Bd.exec
  have hlk : meth.locks = false := by first | exact BodyLoose.notSynchronized Bd | exact Body.notSynchronized Bd
  have hby := Bd.bytes
  have hml : c.maxLocals = 1 := hml0
  have hown : s.vm.findClass "java/util/ArrayList" = some m.cls := findClass_of_methodNamed Bd.named
  have hnm := (name_of_methodNamed Bd.named Bd.method).1
  have X0 : Stand p l e ({ frames := 3, cells := 0, slots := 0, locals := 36 } : Room) s m #[(.ref a)] below meth c s₁ [] 0 0 := Stand.of_body Bd
  have e0 : s₁.heap = h0 := by rw [← hh, Bd.state]; rfl
  have N0 := Fr.nil n0
  show Done p e below (Prm1 s Z a w h0 n0) (s₁.setTop (entryFrame m #[(.ref a)] 1))
  refine Ds (B := s₁.setTop (mkF m 0 #[lR a] [])) (fun _ k => castTop (ef_rm1 m a) k) ?_
  refine Ds (B := s₁.setTop (mkF m 1 #[lR a] [(.ref a)])) (fun _ k => XS.aloadN X0.here hx rfl (hb hby d1_0) rfl rfl k) ?_
  obtain ⟨_, _, ⟨T1, L1, k1, n1⟩, -, X1, ⟨Lc1, hQ1, l1, y1, z1⟩, st1⟩ := X0.specialBack hx (y := (⟨"java/util/AbstractList", "<init>", "()V"⟩ : MethodName)) rfl hown (mvT hZ (hw _ mm6)) (mvT hZ (hw _ mm7)) (mvT hZ (hw _ mm11)) (by decide) (backOf (W := 0) (rm2 l Z a0 hw [] a h0 n0 Z0 Ea Fm Fe Fs ga) hZ (hw _ mm11) (hw _ mm10) (by decide) (by decide)) (g := (mkF m 1 #[lR a] [(.ref a)])) rfl (by rw [hml]; rfl) (Steps.refl _) (a := a) (argsL := []) (rest := []) (lenOf pd_0 rfl) rfl (by show 2 * 0 + _ ≤ _; exact Nat.le_of_eq rfl) (hb hby d1_1) (fun _ _ => ⟨rfl, e0, (by decide : 0 + 0 ≤ _), (by decide : 0 + 0 ≤ _)⟩)
  dsimp only [Pt.U, Pt.locs, Pt.cells, Pt.slots] at X1 l1 y1 z1 st1 hQ1
  rw [l1, y1, z1] at X1
  obtain ⟨hv1, N1q, K1, f1_0, f1_1, f1_2, f1_3⟩ := hQ1
  rw [hv1] at st1
  have N1 := Fr.app N0 N1q
  have Z1 : n0 ≤ T1.heap.size := Nat.le_trans Z0 K1.1
  have KK1 : Keep h0 T1.heap [a] := ((Keep.refl h0 [a])).trans K1 (allS (Or.inl (List.mem_of_getElem? (i := 0) rfl)) all0)
  refine Ds (B := T1.setTop (mkF m 4 #[lR a] [])) (fun _ k => st1.trans k) ?_
  refine Ds (B := T1.setTop (mkF m 5 #[lR a] [(.ref a)])) (fun _ k => XS.aloadN X1.here hx rfl (hb hby d1_4) rfl rfl k) ?_
  have c3 := (own_sta_keep S_D K1 (allS (own_ns_exa Ea) all0))
  obtain ⟨T2, X2, e2, st2⟩ := getS2 X1 hx hZ hown (host := "") (Or.inl (hw _ mm23)) Via.refl rfl c3 (g := (mkF m 5 #[lR a] [(.ref a)])) rfl (hb hby d1_5)
  refine Ds (B := T2.setTop (mkF m 8 #[lR a] [(.ref w), (.ref a)])) (fun _ k => st2 _ k) ?_
  obtain ⟨T4, h4, X4, e4, W4, st4⟩ := putF X2 hx hZ hown (host := "") (Or.inl (hw _ mm24)) Via.refl e2 f1_2 f1_0 (Or.inl (hw _ mm25)) (hw _ mm1) (ty := (.array (.object "java/lang/Object"))) (by decide) rfl rfl (g := (mkF m 8 #[lR a] [(.ref w), (.ref a)])) rfl rfl (hb hby d1_8)
  have F4 := Fld.same W4 f1_2
  have N4 := Fr.snoc X4 N1 ga
  have Z4 : n0 ≤ h4.size := Nat.le_trans Z1 (Keep.of_wr W4).1
  have KK4 : Keep h0 h4 [a] := (KK1).wr W4 (Or.inl (List.mem_of_getElem? (i := 0) rfl))
  refine Ds (B := T4.setTop (mkF m 11 #[lR a] [])) (fun _ k => st4 _ k) ?_
  obtain ⟨fs, hr, hrun, hended, hW, hsame⟩ := X4.leave (v := none) (hlocks := hlk) (fun _ => rfl)
  have c6 := (Exa.wr W4 f1_0)
  have c7 := (Fld.other W4 f1_1 (Or.inr (slot_ne (Or.inl (hw _ mm22)) (Or.inl (hw _ mm25)) (by decide) (t := .int) (t' := (.array (.object "java/lang/Object"))) (by decide) (by decide))))
  have c8 := (Fld.other W4 f1_3 (Or.inr (slot_ne (Or.inl (hw _ mm35)) (Or.inl (hw _ mm25)) (by decide) (t := .int) (t' := (.array (.object "java/lang/Object"))) (by decide) (by decide))))
  refine Done.fin (X4.returnOut hx Bd.returns (hb hby d1_11) hr) hrun hended ⟨_, _, rfl, ?_, ⟨_, rfl⟩, hW, hsame.mono (by decide) (by decide)⟩
  show Qrm1 Z a w h0 n0 _ T4.heap _
  rw [e4]
  exact ⟨rfl, N4, KK4, c6, c7, F4, c8⟩
theorem ef_rm8 (m : MethodId) (a : Addr) : entryFrame m #[(.ref a), (.int 1)] 4 = mkF m 0 #[lR a, lI 1, lU, lU] [] := by first | (simp [entryFrame, mkF, argsToLocals, Value.category]; done) | rfl
def Qrm8 (Z : State) (a : Addr) (mc : Int32) (w : Addr) (kw : ClassId) (h0 : Heap) (n0 : Nat) (v : Option Value) (h : Heap) (L : List Loc) : Prop := ∃ (b : Addr) (kb : ClassId), v = some (.ref b) ∧ Fr n0 L ∧ h0.size ≤ b ∧ Keep h0 h [a] ∧ Ovr Z kb "java/lang/Object" ∧ Exa Z h a "java/util/ArrayList" ∧ Fld Z h a "java/util/AbstractList" "modCount" "I" (.int mc) ∧ Fld Z h a "java/util/ArrayList" "elementData" "[Ljava/lang/Object;" (.ref b) ∧ Fld Z h a "java/util/ArrayList" "size" "I" (.int 0) ∧ Arv Z h b kb (.object "java/lang/Object") (10 : Int32) [.null, .null, .null, .null, .null, .null, .null, .null, .null, .null] .null
def Prm8 (s : State) (Z : State) (a : Addr) (mc : Int32) (w : Addr) (kw : ClassId) (h0 : Heap) (n0 : Nat) : State → Outcome → Prop := fun U' o => ∃ v L, o = .returned v ∧ Qrm8 Z a mc w kw h0 n0 v U'.heap L ∧ FrameEnd s o U' L ({ frames := 1, cells := 1, slots := 10, locals := 14 } : Room).cells ({ frames := 1, cells := 1, slots := 10, locals := 14 } : Room).slots
set_option maxRecDepth 65536 in
set_option maxHeartbeats 40000000 in
theorem rm8 (l : Launch) (Z : State) (a0 : Array Value) (hw : ∀ d ∈ tables_1, d.before a0 Z = true) (ws : List Jvm.Cond) (a : Addr) (mc : Int32) (w : Addr) (kw : ClassId) (h0 : Heap) (n0 : Nat) (Z0 : n0 ≤ h0.size) (Ea : Exa Z h0 a "java/util/ArrayList") (Fm : Fld Z h0 a "java/util/AbstractList" "modCount" "I" (.int mc)) (Fe : Fld Z h0 a "java/util/ArrayList" "elementData" "[Ljava/lang/Object;" (.ref w)) (Fs : Fld Z h0 a "java/util/ArrayList" "size" "I" (.int 0)) (ga : n0 ≤ a) (S_D : Sta Z h0 "java/util/ArrayList" "DEFAULTCAPACITY_EMPTY_ELEMENTDATA" "[Ljava/lang/Object;" (.ref w)) (V_w : Arv Z h0 w kw (.object "java/lang/Object") (0 : Int32) [] .null) (naw : a ≠ w) :
    MetFree l (⟨"java/util/ArrayList", "grow", "(I)[Ljava/lang/Object;"⟩ : MethodName) (head1 (Jvm.Cond.code (⟨"java/util/ArrayList", "grow", "(I)[Ljava/lang/Object;"⟩ : MethodName) jdk_38_method_6_code 4 (some (.array (.object "java/lang/Object"))) :: ws) ({ frames := 1, cells := 1, slots := 10, locals := 14 } : Room)) (fun aa U => aa = #[(.ref a), (.int 1)] ∧ Z.Warmed39 U.vm ∧ U.heap = h0) (fun _ _ _ _ _ => True) (fun _ U o U' => ∃ v L, o = .returned v ∧ Qrm8 Z a mc w kw h0 n0 v U'.heap L ∧ FrameEnd U o U' L ({ frames := 1, cells := 1, slots := 10, locals := 14 } : Room).cells ({ frames := 1, cells := 1, slots := 10, locals := 14 } : Room).slots) := by
  refine MetFree.of_bodySF (plainFor_of_name pn_2) hisR ?_
  intro p e s m args below meth c s₁ Bd hml0 hP hK
  obtain ⟨rfl, hZ, hh⟩ := hP
  have hx := Bd.exec
  have hlk : meth.locks = false := by first | exact BodyLoose.notSynchronized Bd | exact Body.notSynchronized Bd
  have hby := Bd.bytes
  have hml : c.maxLocals = 4 := hml0
  have hown : s.vm.findClass "java/util/ArrayList" = some m.cls := findClass_of_methodNamed Bd.named
  have hnm := (name_of_methodNamed Bd.named Bd.method).1
  have X0 : Stand p l e ({ frames := 1, cells := 1, slots := 10, locals := 14 } : Room) s m #[(.ref a), (.int 1)] below meth c s₁ [] 0 0 := Stand.of_body Bd
  have e0 : s₁.heap = h0 := by rw [← hh, Bd.state]; rfl
  have N0 := Fr.nil n0
  show Done p e below (Prm8 s Z a mc w kw h0 n0) (s₁.setTop (entryFrame m #[(.ref a), (.int 1)] 4))
  refine Ds (B := s₁.setTop (mkF m 0 #[lR a, lI 1, lU, lU] [])) (fun _ k => castTop (ef_rm8 m a) k) ?_
  refine Ds (B := s₁.setTop (mkF m 1 #[lR a, lI 1, lU, lU] [(.ref a)])) (fun _ k => XS.aloadN X0.here hx rfl (hb hby d8_0) rfl rfl k) ?_
  obtain ⟨T1, X1, e1, st1⟩ := getF X0 hx hZ hown (host := "") (Or.inl (hw _ mm24)) Via.refl e0 Fe (g := (mkF m 1 #[lR a, lI 1, lU, lU] [(.ref a)])) rfl rfl (hb hby d8_1)
  refine Ds (B := T1.setTop (mkF m 4 #[lR a, lI 1, lU, lU] [(.ref w)])) (fun _ k => st1 _ k) ?_
  obtain ⟨cl2, Ar2, q2, S2, M2, -⟩ := id V_w
  refine Ds (B := T1.setTop (mkF m 5 #[lR a, lI 1, lU, lU] [(.int 0)])) (fun _ k => X1.arraylength hx (by rw [e1]; exact Ar2.1) (State.isArrayOf_alike hZ.alike Ar2.2.1) (g := (mkF m 4 #[lR a, lI 1, lU, lU] [(.ref w)])) rfl rfl (hb hby d8_4) _ (by rw [len_of S2 M2]; exact k)) ?_
  refine Ds (B := T1.setTop (mkF m 10 #[lR a, lI 1, lI 0, lU] [])) (fun _ k => XS.istoreN X1.here hx rfl (hb hby d8_5) rfl (l' := #[lR a, lI 1, lI 0, lU]) rfl (XS.iloadN X1.here hx rfl (hb hby d8_6) rfl (XS.ifNo X1.here hx rfl (hb hby d8_7) rfl ((if0 _ _).trans (flt (by decide : ¬ ((0 : Int32) < (0 : Int32)))).2.2.1) k))) ?_
  refine Ds (B := T1.setTop (mkF m 11 #[lR a, lI 1, lI 0, lU] [(.ref a)])) (fun _ k => XS.aloadN X1.here hx rfl (hb hby d8_10) rfl rfl k) ?_
  obtain ⟨T3, X3, e3, st3⟩ := getF X1 hx hZ hown (host := "") (Or.inl (hw _ mm24)) Via.refl e1 Fe (g := (mkF m 11 #[lR a, lI 1, lI 0, lU] [(.ref a)])) rfl rfl (hb hby d8_11)
  refine Ds (B := T3.setTop (mkF m 14 #[lR a, lI 1, lI 0, lU] [(.ref w)])) (fun _ k => st3 _ k) ?_
  obtain ⟨T4, X4, e4, st4⟩ := getS2 X3 hx hZ hown (host := "") (Or.inl (hw _ mm23)) Via.refl e3 S_D (g := (mkF m 14 #[lR a, lI 1, lI 0, lU] [(.ref w)])) rfl (hb hby d8_14)
  refine Ds (B := T4.setTop (mkF m 17 #[lR a, lI 1, lI 0, lU] [(.ref w), (.ref w)])) (fun _ k => st4 _ k) ?_
  refine Ds (B := T4.setTop (mkF m 45 #[lR a, lI 1, lI 0, lU] [])) (fun _ k => Jvm.RoadKit.acmp (g := (mkF m 17 #[lR a, lI 1, lI 0, lU] [(.ref w), (.ref w)])) X4 hx rfl rfl rfl (pc0 := 17) (pc' := 45) (same := true) rfl (hb hby d8_17) rfl (decide_eq_true rfl) (by decide) (by decide) k) ?_
  refine Ds (B := T4.setTop (mkF m 49 #[lR a, lI 1, lI 0, lU] [(.int 1), (.int 10), (.ref a)])) (fun _ k => XS.aloadN X4.here hx rfl (hb hby d8_45) rfl rfl (XS.bipush X4.here hx rfl (hb hby d8_46) (XS.iloadN X4.here hx rfl (hb hby d8_48) rfl k))) ?_
  obtain ⟨_, _, ⟨T5, L5, k5, n5⟩, -, X5, ⟨Lc5, hQ5, l5, y5, z5⟩, st5⟩ := Jvm.LawKit.callS X4 hx (y := (⟨"java/lang/Math", "max", "(II)I"⟩ : MethodName)) hown (mvT hZ (hw _ mm51)) (mvT hZ (hw _ mm52)) (mvT hZ (hw _ mm53)) (mvT hZ (hw _ mm54)) (by decide) (backOf (W := 1) (rm9 l Z a0 hw [] (10 : Int32) (1 : Int32) h0 n0 Z0) hZ (hw _ mm54) (hw _ mm53) (by decide) (by decide)) (g := (mkF m 49 #[lR a, lI 1, lI 0, lU] [(.int 1), (.int 10), (.ref a)])) rfl (by rw [hml]; rfl) (argsL := [(.int 10), (.int 1)]) (rest := [(.ref a)]) (lenOf pd_1 rfl) rfl (by show 2 * 0 + _ ≤ _; exact Nat.le_of_eq rfl) (hb hby d8_49) (fun _ _ => ⟨rfl, e4, (by decide : 0 + 0 ≤ _), (by decide : 0 + 0 ≤ _)⟩)
  dsimp only [Pt.U, Pt.locs, Pt.cells, Pt.slots] at X5 l5 y5 z5 st5 hQ5
  rw [l5, y5, z5] at X5
  obtain ⟨hv5, N5q, e5⟩ := hQ5
  rw [show own_imax (10 : Int32) (1 : Int32) = (10 : Int32) from by decide] at hv5
  rw [hv5] at st5
  have N5 := Fr.app N0 N5q
  refine Ds (B := T5.setTop (mkF m 52 #[lR a, lI 1, lI 0, lU] [(.int 10), (.ref a)])) (fun _ k => st5 _ k) ?_
  obtain ⟨T6, h6, k6, X6, e6, E6, A6, O6, st6⟩ := newR X5 hx hZ hown (hw _ mm55) (hw _ mm56) e5 (g := (mkF m 52 #[lR a, lI 1, lI 0, lU] [(.int 10), (.ref a)])) rfl (hb hby d8_52) rfl (by decide) (cap := 10) (by decide) (by decide) (by decide) (by decide)
  obtain ⟨b6, g6⟩ : ∃ z, z = h0.size := ⟨_, rfl⟩
  rw [← g6] at A6 st6
  have ne_a_b6 : a ≠ b6 := Nat.ne_of_lt (Nat.lt_of_lt_of_le Ea.lt (Nat.le_of_eq g6.symm))
  have ne_w_b6 : w ≠ b6 := Nat.ne_of_lt (Nat.lt_of_lt_of_le V_w.lt (Nat.le_of_eq g6.symm))
  have ge_b6 : n0 ≤ b6 := Nat.le_trans Z0 (Nat.le_of_eq g6.symm)
  have sz_b6 : h0.size ≤ b6 := Nat.le_trans ((Keep.refl h0 [a])).1 (Nat.le_of_eq g6.symm)
  have Z6 : n0 ≤ h6.size := Nat.le_trans Z0 E6.1
  have V6 : Arv Z h6 b6 k6 (.object "java/lang/Object") (10 : Int32) [.null, .null, .null, .null, .null, .null, .null, .null, .null, .null] .null := (Arv.new A6 (by decide)).pad (pad_rep [] .null 10)
  have KK6 : Keep h0 h6 [a] := ((Keep.refl h0 [a])).ext E6
  refine Ds (B := T6.setTop (mkF m 55 #[lR a, lI 1, lI 0, lU] [(.ref b6), (.ref a)])) (fun _ k => st6 _ k) ?_
  refine Ds (B := T6.setTop (mkF m 56 #[lR a, lI 1, lI 0, lU] [(.ref b6), (.ref a), (.ref b6)])) (fun _ k => XS.dupX1 X6.here hx rfl (hb hby d8_55) rfl rfl rfl k) ?_
  have c7 := (Exa.ext E6 Ea)
  have c8 := (Fld.ext E6 Fe)
  obtain ⟨T9, h9, X9, e9, W9, st9⟩ := putF X6 hx hZ hown (host := "") (Or.inl (hw _ mm24)) Via.refl e6 c8 c7 (Or.inl (hw _ mm25)) (hw _ mm1) (ty := (.array (.object "java/lang/Object"))) (by decide) rfl rfl (g := (mkF m 56 #[lR a, lI 1, lI 0, lU] [(.ref b6), (.ref a), (.ref b6)])) rfl rfl (hb hby d8_56)
  have F9 := Fld.same W9 c8
  have N9 := Fr.snoc X9 N5 ga
  have Z9 : n0 ≤ h9.size := Nat.le_trans Z6 (Keep.of_wr W9).1
  have KK9 : Keep h0 h9 [a] := (KK6).wr W9 (Or.inl (List.mem_of_getElem? (i := 0) rfl))
  refine Ds (B := T9.setTop (mkF m 59 #[lR a, lI 1, lI 0, lU] [(.ref b6)])) (fun _ k => st9 _ k) ?_
  obtain ⟨fs, hr, hrun, hended, hW, hsame⟩ := X9.leave (v := some (.ref b6)) (hlocks := hlk) (fun h => by rw [Bd.returns] at h; cases h)
  have c11 := (Exa.wr W9 c7)
  have c12 := (Fld.other W9 (Fld.ext E6 Fm) (Or.inr (slot_ne (Or.inl (hw _ mm22)) (Or.inl (hw _ mm25)) (by decide) (t := .int) (t' := (.array (.object "java/lang/Object"))) (by decide) (by decide))))
  have c13 := (Fld.other W9 (Fld.ext E6 Fs) (Or.inr (slot_ne (Or.inl (hw _ mm35)) (Or.inl (hw _ mm25)) (by decide) (t := .int) (t' := (.array (.object "java/lang/Object"))) (by decide) (by decide))))
  have c14 := (V6.other W9 (Ne.symm ne_a_b6))
  refine Done.fin (retR X9 hx Bd.returns rfl rfl (hb hby d8_59) hr) hrun hended ⟨_, _, rfl, ?_, ⟨_, rfl⟩, hW, hsame.mono (by decide) (by decide)⟩
  show Qrm8 Z a mc w kw h0 n0 _ T9.heap _
  rw [e9]
  exact ⟨b6, _, rfl, N9, sz_b6, KK9, O6, c11, c12, F9, c13, c14⟩
theorem ef_rm7 (m : MethodId) (a : Addr) : entryFrame m #[(.ref a)] 1 = mkF m 0 #[lR a] [] := by first | (simp [entryFrame, mkF, argsToLocals, Value.category]; done) | rfl
def Qrm7 (Z : State) (a : Addr) (mc : Int32) (w : Addr) (kw : ClassId) (h0 : Heap) (n0 : Nat) (v : Option Value) (h : Heap) (L : List Loc) : Prop := ∃ (b : Addr) (kb : ClassId), v = some (.ref b) ∧ Fr n0 L ∧ h0.size ≤ b ∧ Keep h0 h [a] ∧ Ovr Z kb "java/lang/Object" ∧ Exa Z h a "java/util/ArrayList" ∧ Fld Z h a "java/util/AbstractList" "modCount" "I" (.int mc) ∧ Fld Z h a "java/util/ArrayList" "elementData" "[Ljava/lang/Object;" (.ref b) ∧ Fld Z h a "java/util/ArrayList" "size" "I" (.int 0) ∧ Arv Z h b kb (.object "java/lang/Object") (10 : Int32) [.null, .null, .null, .null, .null, .null, .null, .null, .null, .null] .null
def Prm7 (s : State) (Z : State) (a : Addr) (mc : Int32) (w : Addr) (kw : ClassId) (h0 : Heap) (n0 : Nat) : State → Outcome → Prop := fun U' o => ∃ v L, o = .returned v ∧ Qrm7 Z a mc w kw h0 n0 v U'.heap L ∧ FrameEnd s o U' L ({ frames := 2, cells := 1, slots := 10, locals := 29 } : Room).cells ({ frames := 2, cells := 1, slots := 10, locals := 29 } : Room).slots
set_option maxRecDepth 65536 in
set_option maxHeartbeats 40000000 in
theorem rm7 (l : Launch) (Z : State) (a0 : Array Value) (hw : ∀ d ∈ tables_1, d.before a0 Z = true) (ws : List Jvm.Cond) (a : Addr) (mc : Int32) (w : Addr) (kw : ClassId) (h0 : Heap) (n0 : Nat) (Z0 : n0 ≤ h0.size) (Ea : Exa Z h0 a "java/util/ArrayList") (Fm : Fld Z h0 a "java/util/AbstractList" "modCount" "I" (.int mc)) (Fe : Fld Z h0 a "java/util/ArrayList" "elementData" "[Ljava/lang/Object;" (.ref w)) (Fs : Fld Z h0 a "java/util/ArrayList" "size" "I" (.int 0)) (ga : n0 ≤ a) (S_D : Sta Z h0 "java/util/ArrayList" "DEFAULTCAPACITY_EMPTY_ELEMENTDATA" "[Ljava/lang/Object;" (.ref w)) (V_w : Arv Z h0 w kw (.object "java/lang/Object") (0 : Int32) [] .null) (naw : a ≠ w) :
    MetFree l (⟨"java/util/ArrayList", "grow", "()[Ljava/lang/Object;"⟩ : MethodName) (head1 (Jvm.Cond.code (⟨"java/util/ArrayList", "grow", "()[Ljava/lang/Object;"⟩ : MethodName) jdk_38_method_7_code 1 (some (.array (.object "java/lang/Object"))) :: ws) ({ frames := 2, cells := 1, slots := 10, locals := 29 } : Room)) (fun aa U => aa = #[(.ref a)] ∧ Z.Warmed39 U.vm ∧ U.heap = h0) (fun _ _ _ _ _ => True) (fun _ U o U' => ∃ v L, o = .returned v ∧ Qrm7 Z a mc w kw h0 n0 v U'.heap L ∧ FrameEnd U o U' L ({ frames := 2, cells := 1, slots := 10, locals := 29 } : Room).cells ({ frames := 2, cells := 1, slots := 10, locals := 29 } : Room).slots) := by
  refine MetFree.of_bodySF (plainFor_of_name pn_2) hisR ?_
  intro p e s m args below meth c s₁ Bd hml0 hP hK
  obtain ⟨rfl, hZ, hh⟩ := hP
  have hx := Bd.exec
  have hlk : meth.locks = false := by first | exact BodyLoose.notSynchronized Bd | exact Body.notSynchronized Bd
  have hby := Bd.bytes
  have hml : c.maxLocals = 1 := hml0
  have hown : s.vm.findClass "java/util/ArrayList" = some m.cls := findClass_of_methodNamed Bd.named
  have hnm := (name_of_methodNamed Bd.named Bd.method).1
  have X0 : Stand p l e ({ frames := 2, cells := 1, slots := 10, locals := 29 } : Room) s m #[(.ref a)] below meth c s₁ [] 0 0 := Stand.of_body Bd
  have e0 : s₁.heap = h0 := by rw [← hh, Bd.state]; rfl
  have N0 := Fr.nil n0
  show Done p e below (Prm7 s Z a mc w kw h0 n0) (s₁.setTop (entryFrame m #[(.ref a)] 1))
  refine Ds (B := s₁.setTop (mkF m 0 #[lR a] [])) (fun _ k => castTop (ef_rm7 m a) k) ?_
  refine Ds (B := s₁.setTop (mkF m 2 #[lR a] [(.ref a), (.ref a)])) (fun _ k => XS.aloadN X0.here hx rfl (hb hby d7_0) rfl rfl (XS.aloadN X0.here hx rfl (hb hby d7_1) rfl rfl k)) ?_
  obtain ⟨T1, X1, e1, st1⟩ := getF X0 hx hZ hown (host := "") (Or.inl (hw _ mm34)) Via.refl e0 Fs (g := (mkF m 2 #[lR a] [(.ref a), (.ref a)])) rfl rfl (hb hby d7_2)
  refine Ds (B := T1.setTop (mkF m 5 #[lR a] [(.int 0), (.ref a)])) (fun _ k => st1 _ k) ?_
  refine Ds (B := T1.setTop (mkF m 7 #[lR a] [(.int 1), (.ref a)])) (fun _ k => XS.iconst X1.here hx rfl (hb hby d7_5) (XS.iadd X1.here hx rfl (hb hby d7_6) rfl k)) ?_
  obtain ⟨cq2, q2, q2'⟩ := Ea.cell
  obtain ⟨_, _, ⟨T2, L2, k2, n2⟩, -, X2, ⟨Lc2, hQ2, l2, y2, z2⟩, st2⟩ := X1.privateBack hx (y := (⟨"java/util/ArrayList", "grow", "(I)[Ljava/lang/Object;"⟩ : MethodName)) hown (mvT hZ (hw _ mm46)) (mvT hZ (hw _ mm47)) (mvT hZ (hw _ mm49)) (Cond.privateMethod_at (mvP hZ (hw _ mm48) (args := #[]))) (mvT hZ (hw _ mm50)) (by decide) (backOf (W := 0) (rm8 l Z a0 hw [] a  mc w kw h0 n0 Z0 Ea Fm Fe Fs ga S_D V_w naw) hZ (hw _ mm50) (hw _ mm2) (by decide) (by decide)) (g := (mkF m 7 #[lR a] [(.int 1), (.ref a)])) rfl (by rw [hml]; rfl) (Steps.refl _) (a := a) (by rw [e1]; exact q2) q2' (argsL := [(.int 1)]) (rest := []) (lenOf pd_2 rfl) rfl (by show 2 * 0 + _ ≤ _; exact Nat.le_of_eq rfl) (hb hby d7_7) (fun _ _ => ⟨rfl, e1, (by decide : 0 + 1 ≤ _), (by decide : 0 + 10 ≤ _)⟩)
  dsimp only [Pt.U, Pt.locs, Pt.cells, Pt.slots] at X2 l2 y2 z2 st2 hQ2
  rw [l2, y2, z2] at X2
  obtain ⟨g, kg, hv2, N2q, sz2, K2, O_g, f2_1, f2_2, f2_3, f2_4, f2_5⟩ := hQ2
  rw [hv2] at st2
  have N2 := Fr.app N0 N2q
  have ne_a_g : a ≠ g := Nat.ne_of_lt (Nat.lt_of_lt_of_le Ea.lt sz2)
  have ne_w_g : w ≠ g := Nat.ne_of_lt (Nat.lt_of_lt_of_le V_w.lt sz2)
  have ge_g : n0 ≤ g := Nat.le_trans Z0 sz2
  have sz_g : h0.size ≤ g := Nat.le_trans ((Keep.refl h0 [a])).1 sz2
  have Z2 : n0 ≤ T2.heap.size := Nat.le_trans Z0 K2.1
  have KK2 : Keep h0 T2.heap [a] := ((Keep.refl h0 [a])).trans K2 (allS (Or.inl (List.mem_of_getElem? (i := 0) rfl)) all0)
  refine Ds (B := T2.setTop (mkF m 10 #[lR a] [(.ref g)])) (fun _ k => st2.trans k) ?_
  obtain ⟨fs, hr, hrun, hended, hW, hsame⟩ := X2.leave (v := some (.ref g)) (hlocks := hlk) (fun h => by rw [Bd.returns] at h; cases h)
  refine Done.fin (retR X2 hx Bd.returns rfl rfl (hb hby d7_10) hr) hrun hended ⟨_, _, rfl, ?_, ⟨_, rfl⟩, hW, hsame.mono (by decide) (by decide)⟩
  show Qrm7 Z a mc w kw h0 n0 _ T2.heap _
  exact ⟨g, _, rfl, N2, sz_g, KK2, O_g, f2_1, f2_2, f2_3, f2_4, f2_5⟩
theorem ef_rmA3_0 (m : MethodId) (a : Addr) (el : Addr) (w : Addr) : entryFrame m #[(.ref a), (.ref el), (.ref w), (.int 0)] 4 = mkF m 0 #[lR a, lR el, lR w, lI 0] [] := by first | (simp [entryFrame, mkF, argsToLocals, Value.category]; done) | rfl
def QrmA3_0 (Z : State) (a : Addr) (el : Addr) (w : Addr) (mc : Int32) (kw : ClassId) (h0 : Heap) (n0 : Nat) (v : Option Value) (h : Heap) (L : List Loc) : Prop := ∃ (b : Addr) (kb : ClassId), v = none ∧ Fr n0 L ∧ Keep h0 h [a] ∧ h0.size ≤ b ∧ Ovr Z kb "java/lang/Object" ∧ Exa Z h a "java/util/ArrayList" ∧ Fld Z h a "java/util/AbstractList" "modCount" "I" (.int mc) ∧ Fld Z h a "java/util/ArrayList" "elementData" "[Ljava/lang/Object;" (.ref b) ∧ Fld Z h a "java/util/ArrayList" "size" "I" (.int 1) ∧ Arv Z h b kb (.object "java/lang/Object") (10 : Int32) [(.ref el), .null, .null, .null, .null, .null, .null, .null, .null, .null] .null
def PrmA3_0 (s : State) (Z : State) (a : Addr) (el : Addr) (w : Addr) (mc : Int32) (kw : ClassId) (h0 : Heap) (n0 : Nat) : State → Outcome → Prop := fun U' o => ∃ v L, o = .returned v ∧ QrmA3_0 Z a el w mc kw h0 n0 v U'.heap L ∧ FrameEnd s o U' L ({ frames := 3, cells := 1, slots := 10, locals := 41 } : Room).cells ({ frames := 3, cells := 1, slots := 10, locals := 41 } : Room).slots
set_option maxRecDepth 65536 in
set_option maxHeartbeats 40000000 in
theorem rmA3_0 (l : Launch) (Z : State) (a0 : Array Value) (hw : ∀ d ∈ tables_1, d.before a0 Z = true) (ws : List Jvm.Cond) (a : Addr) (el : Addr) (w : Addr) (mc : Int32) (kw : ClassId) (h0 : Heap) (n0 : Nat) (Z0 : n0 ≤ h0.size) (Ea : Exa Z h0 a "java/util/ArrayList") (Fm : Fld Z h0 a "java/util/AbstractList" "modCount" "I" (.int mc)) (Fe : Fld Z h0 a "java/util/ArrayList" "elementData" "[Ljava/lang/Object;" (.ref w)) (Fs : Fld Z h0 a "java/util/ArrayList" "size" "I" (.int 0)) (ga : n0 ≤ a) (S_D : Sta Z h0 "java/util/ArrayList" "DEFAULTCAPACITY_EMPTY_ELEMENTDATA" "[Ljava/lang/Object;" (.ref w)) (V_w : Arv Z h0 w kw (.object "java/lang/Object") (0 : Int32) [] .null) (naw : a ≠ w) (Ee : Exa Z h0 el "[I") :
    MetFree l (⟨"java/util/ArrayList", "add", "(Ljava/lang/Object;[Ljava/lang/Object;I)V"⟩ : MethodName) (head1 (Jvm.Cond.code (⟨"java/util/ArrayList", "add", "(Ljava/lang/Object;[Ljava/lang/Object;I)V"⟩ : MethodName) jdk_38_method_24_code 4 none :: ws) ({ frames := 3, cells := 1, slots := 10, locals := 41 } : Room)) (fun aa U => aa = #[(.ref a), (.ref el), (.ref w), (.int 0)] ∧ Z.Warmed39 U.vm ∧ U.heap = h0) (fun _ _ _ _ _ => True) (fun _ U o U' => ∃ v L, o = .returned v ∧ QrmA3_0 Z a el w mc kw h0 n0 v U'.heap L ∧ FrameEnd U o U' L ({ frames := 3, cells := 1, slots := 10, locals := 41 } : Room).cells ({ frames := 3, cells := 1, slots := 10, locals := 41 } : Room).slots) := by
  refine MetFree.of_bodySF (plainFor_of_name pn_2) hisR ?_
  intro p e s m args below meth c s₁ Bd hml0 hP hK
  obtain ⟨rfl, hZ, hh⟩ := hP
  have hx := Bd.exec
  have hlk : meth.locks = false := by first | exact BodyLoose.notSynchronized Bd | exact Body.notSynchronized Bd
  have hby := Bd.bytes
  have hml : c.maxLocals = 4 := hml0
  have hown : s.vm.findClass "java/util/ArrayList" = some m.cls := findClass_of_methodNamed Bd.named
  have hnm := (name_of_methodNamed Bd.named Bd.method).1
  have X0 : Stand p l e ({ frames := 3, cells := 1, slots := 10, locals := 41 } : Room) s m #[(.ref a), (.ref el), (.ref w), (.int 0)] below meth c s₁ [] 0 0 := Stand.of_body Bd
  have e0 : s₁.heap = h0 := by rw [← hh, Bd.state]; rfl
  have N0 := Fr.nil n0
  show Done p e below (PrmA3_0 s Z a el w mc kw h0 n0) (s₁.setTop (entryFrame m #[(.ref a), (.ref el), (.ref w), (.int 0)] 4))
  refine Ds (B := s₁.setTop (mkF m 0 #[lR a, lR el, lR w, lI 0] [])) (fun _ k => castTop (ef_rmA3_0 m a el w) k) ?_
  refine Ds (B := s₁.setTop (mkF m 2 #[lR a, lR el, lR w, lI 0] [(.ref w), (.int 0)])) (fun _ k => XS.iloadN X0.here hx rfl (hb hby d6_0) rfl (XS.aloadN X0.here hx rfl (hb hby d6_1) rfl rfl k)) ?_
  obtain ⟨cl1, Ar1, q1, S1, M1, -⟩ := id V_w
  refine Ds (B := s₁.setTop (mkF m 3 #[lR a, lR el, lR w, lI 0] [(.int 0), (.int 0)])) (fun _ k => X0.arraylength hx (by rw [e0]; exact Ar1.1) (State.isArrayOf_alike hZ.alike Ar1.2.1) (g := (mkF m 2 #[lR a, lR el, lR w, lI 0] [(.ref w), (.int 0)])) rfl rfl (hb hby d6_2) _ (by rw [len_of S1 M1]; exact k)) ?_
  refine Ds (B := s₁.setTop (mkF m 7 #[lR a, lR el, lR w, lI 0] [(.ref a)])) (fun _ k => XS.icmpNo X0.here hx rfl (hb hby d6_3) rfl (teq (rfl : (0 : Int32) = (0 : Int32))).2 (XS.aloadN X0.here hx rfl (hb hby d6_6) rfl rfl k)) ?_
  obtain ⟨cq2, q2, q2'⟩ := Ea.cell
  obtain ⟨_, _, ⟨T2, L2, k2, n2⟩, -, X2, ⟨Lc2, hQ2, l2, y2, z2⟩, st2⟩ := X0.privateBack hx (y := (⟨"java/util/ArrayList", "grow", "()[Ljava/lang/Object;"⟩ : MethodName)) hown (mvT hZ (hw _ mm41)) (mvT hZ (hw _ mm42)) (mvT hZ (hw _ mm44)) (Cond.privateMethod_at (mvP hZ (hw _ mm43) (args := #[]))) (mvT hZ (hw _ mm45)) (by decide) (backOf (W := 0) (rm7 l Z a0 hw [] a  mc w kw h0 n0 Z0 Ea Fm Fe Fs ga S_D V_w naw) hZ (hw _ mm45) (hw _ mm2) (by decide) (by decide)) (g := (mkF m 7 #[lR a, lR el, lR w, lI 0] [(.ref a)])) rfl (by rw [hml]; rfl) (Steps.refl _) (a := a) (by rw [e0]; exact q2) q2' (argsL := []) (rest := []) (lenOf pd_3 rfl) rfl (by show 2 * 0 + _ ≤ _; exact Nat.le_of_eq rfl) (hb hby d6_7) (fun _ _ => ⟨rfl, e0, (by decide : 0 + 1 ≤ _), (by decide : 0 + 10 ≤ _)⟩)
  dsimp only [Pt.U, Pt.locs, Pt.cells, Pt.slots] at X2 l2 y2 z2 st2 hQ2
  rw [l2, y2, z2] at X2
  obtain ⟨g, kg, hv2, N2q, sz2, K2, O_g, f2_1, f2_2, f2_3, f2_4, f2_5⟩ := hQ2
  rw [hv2] at st2
  have N2 := Fr.app N0 N2q
  have ne_a_g : a ≠ g := Nat.ne_of_lt (Nat.lt_of_lt_of_le Ea.lt sz2)
  have ne_w_g : w ≠ g := Nat.ne_of_lt (Nat.lt_of_lt_of_le V_w.lt sz2)
  have ne_el_g : el ≠ g := Nat.ne_of_lt (Nat.lt_of_lt_of_le Ee.lt sz2)
  have ge_g : n0 ≤ g := Nat.le_trans Z0 sz2
  have sz_g : h0.size ≤ g := Nat.le_trans ((Keep.refl h0 [a])).1 sz2
  have Z2 : n0 ≤ T2.heap.size := Nat.le_trans Z0 K2.1
  have KK2 : Keep h0 T2.heap [a] := ((Keep.refl h0 [a])).trans K2 (allS (Or.inl (List.mem_of_getElem? (i := 0) rfl)) all0)
  refine Ds (B := T2.setTop (mkF m 10 #[lR a, lR el, lR w, lI 0] [(.ref g)])) (fun _ k => st2.trans k) ?_
  refine Ds (B := T2.setTop (mkF m 11 #[lR a, lR el, lR g, lI 0] [])) (fun _ k => XS.astoreN X2.here hx rfl (hb hby d6_10) rfl rfl (l' := #[lR a, lR el, lR g, lI 0]) rfl k) ?_
  refine Ds (B := T2.setTop (mkF m 14 #[lR a, lR el, lR g, lI 0] [(.ref el), (.int 0), (.ref g)])) (fun _ k => XS.aloadN X2.here hx rfl (hb hby d6_11) rfl rfl (XS.iloadN X2.here hx rfl (hb hby d6_12) rfl (XS.aloadN X2.here hx rfl (hb hby d6_13) rfl rfl k))) ?_
  have c4 := (Ee.keep K2)
  obtain ⟨cl3, Ar3, q3, S3, M3, H3, G3⟩ := id f2_5
  have hin3 : ¬ ((0 : Int32) < 0 ∨ cl3.slots.size ≤ ((0 : Int32)).toNatClampNeg) := inb_of S3 ⟨by decide, by decide⟩
  obtain ⟨T3, h3, X3, e3, W3, st3⟩ := stR X2 hx hZ rfl Ar3 (j := (0 : Int32)) hin3 rfl (Sto.ofV Ar3 q3 O_g (Ins.of_exa c4 (hw _ mm57))) (g := (mkF m 14 #[lR a, lR el, lR g, lI 0] [(.ref el), (.int 0), (.ref g)])) rfl rfl (hb hby d6_14)
  have V3 : Arv Z h3 g kg (.object "java/lang/Object") (10 : Int32) [(.ref el), .null, .null, .null, .null, .null, .null, .null, .null, .null] .null := Arv.set Ar3 q3 S3 M3 H3 G3 rfl W3 0 rfl (Nat.le_of_ble_eq_true rfl)
  have N3 := Fr.snoc X3 N2 ge_g
  have Z3 : n0 ≤ h3.size := Nat.le_trans Z2 (Keep.of_wr W3).1
  have KK3 : Keep h0 h3 [a] := (KK2).wr W3 (Or.inr sz_g)
  refine Ds (B := T3.setTop (mkF m 15 #[lR a, lR el, lR g, lI 0] [])) (fun _ k => st3 _ k) ?_
  refine Ds (B := T3.setTop (mkF m 19 #[lR a, lR el, lR g, lI 0] [(.int 1), (.ref a)])) (fun _ k => XS.aloadN X3.here hx rfl (hb hby d6_15) rfl rfl (XS.iloadN X3.here hx rfl (hb hby d6_16) rfl (XS.iconst X3.here hx rfl (hb hby d6_17) (XS.iadd X3.here hx rfl (hb hby d6_18) rfl k)))) ?_
  have c5 := (Exa.wr W3 f2_1)
  have c6 := (Fld.other W3 f2_4 (Or.inl ne_a_g))
  obtain ⟨T7, h7, X7, e7, W7, st7⟩ := putF X3 hx hZ hown (host := "") (Or.inl (hw _ mm34)) Via.refl e3 c6 c5 (Or.inl (hw _ mm35)) (hw _ mm1) (ty := .int) (by decide) rfl rfl (g := (mkF m 19 #[lR a, lR el, lR g, lI 0] [(.int 1), (.ref a)])) rfl rfl (hb hby d6_19)
  have F7 := Fld.same W7 c6
  have N7 := Fr.snoc X7 N3 ga
  have Z7 : n0 ≤ h7.size := Nat.le_trans Z3 (Keep.of_wr W7).1
  have KK7 : Keep h0 h7 [a] := (KK3).wr W7 (Or.inl (List.mem_of_getElem? (i := 0) rfl))
  refine Ds (B := T7.setTop (mkF m 22 #[lR a, lR el, lR g, lI 0] [])) (fun _ k => st7 _ k) ?_
  obtain ⟨fs, hr, hrun, hended, hW, hsame⟩ := X7.leave (v := none) (hlocks := hlk) (fun _ => rfl)
  have c9 := (Exa.wr W7 c5)
  have c10 := (Fld.other W7 (Fld.other W3 f2_2 (Or.inl ne_a_g)) (Or.inr (slot_ne (Or.inl (hw _ mm22)) (Or.inl (hw _ mm35)) (by decide) (t := .int) (t' := .int) (by decide) (by decide))))
  have c11 := (Fld.other W7 (Fld.other W3 f2_3 (Or.inl ne_a_g)) (Or.inr (slot_ne (Or.inl (hw _ mm25)) (Or.inl (hw _ mm35)) (by decide) (t := (.array (.object "java/lang/Object"))) (t' := .int) (by decide) (by decide))))
  have c12 := (V3.other W7 (Ne.symm ne_a_g))
  refine Done.fin (X7.returnOut hx Bd.returns (hb hby d6_22) hr) hrun hended ⟨_, _, rfl, ?_, ⟨_, rfl⟩, hW, hsame.mono (by decide) (by decide)⟩
  show QrmA3_0 Z a el w mc kw h0 n0 _ T7.heap _
  rw [e7]
  exact ⟨g, _, rfl, N7, KK7, sz_g, O_g, c9, c10, c11, F7, c12⟩
theorem ef_rmA1_0 (m : MethodId) (a : Addr) (el : Addr) : entryFrame m #[(.ref a), (.ref el)] 2 = mkF m 0 #[lR a, lR el] [] := by first | (simp [entryFrame, mkF, argsToLocals, Value.category]; done) | rfl
def QrmA1_0 (Z : State) (a : Addr) (el : Addr) (mc : Int32) (w : Addr) (kw : ClassId) (h0 : Heap) (n0 : Nat) (v : Option Value) (h : Heap) (L : List Loc) : Prop := ∃ (b : Addr) (kb : ClassId), v = some (.int 1) ∧ Fr n0 L ∧ Keep h0 h [a] ∧ h0.size ≤ b ∧ Ovr Z kb "java/lang/Object" ∧ Exa Z h a "java/util/ArrayList" ∧ Fld Z h a "java/util/AbstractList" "modCount" "I" (.int (mc + (1 : Int32))) ∧ Fld Z h a "java/util/ArrayList" "elementData" "[Ljava/lang/Object;" (.ref b) ∧ Fld Z h a "java/util/ArrayList" "size" "I" (.int 1) ∧ Arv Z h b kb (.object "java/lang/Object") (10 : Int32) [(.ref el), .null, .null, .null, .null, .null, .null, .null, .null, .null] .null
def PrmA1_0 (s : State) (Z : State) (a : Addr) (el : Addr) (mc : Int32) (w : Addr) (kw : ClassId) (h0 : Heap) (n0 : Nat) : State → Outcome → Prop := fun U' o => ∃ v L, o = .returned v ∧ QrmA1_0 Z a el mc w kw h0 n0 v U'.heap L ∧ FrameEnd s o U' L ({ frames := 4, cells := 1, slots := 10, locals := 56 } : Room).cells ({ frames := 4, cells := 1, slots := 10, locals := 56 } : Room).slots
set_option maxRecDepth 65536 in
set_option maxHeartbeats 40000000 in
theorem rmA1_0 (l : Launch) (Z : State) (a0 : Array Value) (hw : ∀ d ∈ tables_1, d.before a0 Z = true) (ws : List Jvm.Cond) (a : Addr) (el : Addr) (mc : Int32) (w : Addr) (kw : ClassId) (h0 : Heap) (n0 : Nat) (Z0 : n0 ≤ h0.size) (Ea : Exa Z h0 a "java/util/ArrayList") (Fm : Fld Z h0 a "java/util/AbstractList" "modCount" "I" (.int mc)) (Fe : Fld Z h0 a "java/util/ArrayList" "elementData" "[Ljava/lang/Object;" (.ref w)) (Fs : Fld Z h0 a "java/util/ArrayList" "size" "I" (.int 0)) (ga : n0 ≤ a) (S_D : Sta Z h0 "java/util/ArrayList" "DEFAULTCAPACITY_EMPTY_ELEMENTDATA" "[Ljava/lang/Object;" (.ref w)) (V_w : Arv Z h0 w kw (.object "java/lang/Object") (0 : Int32) [] .null) (naw : a ≠ w) (Ee : Exa Z h0 el "[I") :
    MetFree l (⟨"java/util/ArrayList", "add", "(Ljava/lang/Object;)Z"⟩ : MethodName) (head1 (Jvm.Cond.code (⟨"java/util/ArrayList", "add", "(Ljava/lang/Object;)Z"⟩ : MethodName) jdk_38_method_25_code 2 (some .boolean) :: ws) ({ frames := 4, cells := 1, slots := 10, locals := 56 } : Room)) (fun aa U => aa = #[(.ref a), (.ref el)] ∧ Z.Warmed39 U.vm ∧ U.heap = h0) (fun _ _ _ _ _ => True) (fun _ U o U' => ∃ v L, o = .returned v ∧ QrmA1_0 Z a el mc w kw h0 n0 v U'.heap L ∧ FrameEnd U o U' L ({ frames := 4, cells := 1, slots := 10, locals := 56 } : Room).cells ({ frames := 4, cells := 1, slots := 10, locals := 56 } : Room).slots) := by
  refine MetFree.of_bodySF (plainFor_of_name pn_2) hisR ?_
  intro p e s m args below meth c s₁ Bd hml0 hP hK
  obtain ⟨rfl, hZ, hh⟩ := hP
  have hx := Bd.exec
  have hlk : meth.locks = false := by first | exact BodyLoose.notSynchronized Bd | exact Body.notSynchronized Bd
  have hby := Bd.bytes
  have hml : c.maxLocals = 2 := hml0
  have hown : s.vm.findClass "java/util/ArrayList" = some m.cls := findClass_of_methodNamed Bd.named
  have hnm := (name_of_methodNamed Bd.named Bd.method).1
  have X0 : Stand p l e ({ frames := 4, cells := 1, slots := 10, locals := 56 } : Room) s m #[(.ref a), (.ref el)] below meth c s₁ [] 0 0 := Stand.of_body Bd
  have e0 : s₁.heap = h0 := by rw [← hh, Bd.state]; rfl
  have N0 := Fr.nil n0
  show Done p e below (PrmA1_0 s Z a el mc w kw h0 n0) (s₁.setTop (entryFrame m #[(.ref a), (.ref el)] 2))
  refine Ds (B := s₁.setTop (mkF m 0 #[lR a, lR el] [])) (fun _ k => castTop (ef_rmA1_0 m a el) k) ?_
  refine Ds (B := s₁.setTop (mkF m 2 #[lR a, lR el] [(.ref a), (.ref a)])) (fun _ k => XS.aloadN X0.here hx rfl (hb hby d5_0) rfl rfl (XS.dup X0.here hx rfl (hb hby d5_1) rfl rfl k)) ?_
  obtain ⟨T1, X1, e1, st1⟩ := getF X0 hx hZ hown (host := "") (Or.inl (hw _ mm32)) (Via.of (hw _ mm33)) e0 Fm (g := (mkF m 2 #[lR a, lR el] [(.ref a), (.ref a)])) rfl rfl (hb hby d5_2)
  refine Ds (B := T1.setTop (mkF m 5 #[lR a, lR el] [(.int mc), (.ref a)])) (fun _ k => st1 _ k) ?_
  refine Ds (B := T1.setTop (mkF m 7 #[lR a, lR el] [(.int (mc + (1 : Int32))), (.ref a)])) (fun _ k => XS.iconst X1.here hx rfl (hb hby d5_5) (XS.iadd X1.here hx rfl (hb hby d5_6) rfl k)) ?_
  obtain ⟨T2, h2, X2, e2, W2, st2⟩ := putF X1 hx hZ hown (host := "") (Or.inl (hw _ mm32)) (Via.of (hw _ mm33)) e1 Fm Ea (Or.inl (hw _ mm22)) (hw _ mm1) (ty := .int) (by decide) rfl rfl (g := (mkF m 7 #[lR a, lR el] [(.int (mc + (1 : Int32))), (.ref a)])) rfl rfl (hb hby d5_7)
  have F2 := Fld.same W2 Fm
  have N2 := Fr.snoc X2 N0 ga
  have Z2 : n0 ≤ h2.size := Nat.le_trans Z0 (Keep.of_wr W2).1
  have KK2 : Keep h0 h2 [a] := ((Keep.refl h0 [a])).wr W2 (Or.inl (List.mem_of_getElem? (i := 0) rfl))
  refine Ds (B := T2.setTop (mkF m 10 #[lR a, lR el] [])) (fun _ k => st2 _ k) ?_
  refine Ds (B := T2.setTop (mkF m 13 #[lR a, lR el] [(.ref a), (.ref el), (.ref a)])) (fun _ k => XS.aloadN X2.here hx rfl (hb hby d5_10) rfl rfl (XS.aloadN X2.here hx rfl (hb hby d5_11) rfl rfl (XS.aloadN X2.here hx rfl (hb hby d5_12) rfl rfl k))) ?_
  have c4 := (Fld.other W2 Fe (Or.inr (slot_ne (Or.inl (hw _ mm25)) (Or.inl (hw _ mm22)) (by decide) (t := (.array (.object "java/lang/Object"))) (t' := .int) (by decide) (by decide))))
  obtain ⟨T3, X3, e3, st3⟩ := getF X2 hx hZ hown (host := "") (Or.inl (hw _ mm24)) Via.refl e2 c4 (g := (mkF m 13 #[lR a, lR el] [(.ref a), (.ref el), (.ref a)])) rfl rfl (hb hby d5_13)
  refine Ds (B := T3.setTop (mkF m 16 #[lR a, lR el] [(.ref w), (.ref el), (.ref a)])) (fun _ k => st3 _ k) ?_
  refine Ds (B := T3.setTop (mkF m 17 #[lR a, lR el] [(.ref a), (.ref w), (.ref el), (.ref a)])) (fun _ k => XS.aloadN X3.here hx rfl (hb hby d5_16) rfl rfl k) ?_
  have c6 := (Fld.other W2 Fs (Or.inr (slot_ne (Or.inl (hw _ mm35)) (Or.inl (hw _ mm22)) (by decide) (t := .int) (t' := .int) (by decide) (by decide))))
  obtain ⟨T5, X5, e5, st5⟩ := getF X3 hx hZ hown (host := "") (Or.inl (hw _ mm34)) Via.refl e3 c6 (g := (mkF m 17 #[lR a, lR el] [(.ref a), (.ref w), (.ref el), (.ref a)])) rfl rfl (hb hby d5_17)
  refine Ds (B := T5.setTop (mkF m 20 #[lR a, lR el] [(.int 0), (.ref w), (.ref el), (.ref a)])) (fun _ k => st5 _ k) ?_
  have c7 := (Exa.wr W2 Ea)
  have c8 := (Sta.wr W2 S_D)
  have c9 := (V_w.other W2 (Ne.symm naw))
  have c10 := (Exa.wr W2 Ee)
  obtain ⟨cq11, q11, q11'⟩ := c7.cell
  obtain ⟨_, _, ⟨T11, L11, k11, n11⟩, -, X11, ⟨Lc11, hQ11, l11, y11, z11⟩, st11⟩ := X5.privateBack hx (y := (⟨"java/util/ArrayList", "add", "(Ljava/lang/Object;[Ljava/lang/Object;I)V"⟩ : MethodName)) hown (mvT hZ (hw _ mm36)) (mvT hZ (hw _ mm37)) (mvT hZ (hw _ mm39)) (Cond.privateMethod_at (mvP hZ (hw _ mm38) (args := #[]))) (mvT hZ (hw _ mm40)) (by decide) (backOf (W := 0) (rmA3_0 l Z a0 hw [] a el w (mc + (1 : Int32)) kw h2 n0 Z2 c7 F2 c4 c6 ga c8 c9 naw c10) hZ (hw _ mm40) (hw _ mm2) (by decide) (by decide)) (g := (mkF m 20 #[lR a, lR el] [(.int 0), (.ref w), (.ref el), (.ref a)])) rfl (by rw [hml]; rfl) (Steps.refl _) (a := a) (by rw [e5]; exact q11) q11' (argsL := [(.ref el), (.ref w), (.int 0)]) (rest := []) (lenOf pd_4 rfl) rfl (by show 2 * 0 + _ ≤ _; exact Nat.le_of_eq rfl) (hb hby d5_20) (fun _ _ => ⟨rfl, e5, (by decide : 0 + 1 ≤ _), (by decide : 0 + 10 ≤ _)⟩)
  dsimp only [Pt.U, Pt.locs, Pt.cells, Pt.slots] at X11 l11 y11 z11 st11 hQ11
  rw [l11, y11, z11] at X11
  obtain ⟨g, kg, hv11, N11q, K11, f11_0, O_g, f11_2, f11_3, f11_4, f11_5, f11_6⟩ := hQ11
  rw [hv11] at st11
  have N11 := Fr.app N2 N11q
  have ne_a_g : a ≠ g := Nat.ne_of_lt (Nat.lt_of_lt_of_le c7.lt f11_0)
  have ne_w_g : w ≠ g := Nat.ne_of_lt (Nat.lt_of_lt_of_le c9.lt f11_0)
  have ne_el_g : el ≠ g := Nat.ne_of_lt (Nat.lt_of_lt_of_le c10.lt f11_0)
  have ge_g : n0 ≤ g := Nat.le_trans Z2 f11_0
  have sz_g : h0.size ≤ g := Nat.le_trans (KK2).1 f11_0
  have Z11 : n0 ≤ T11.heap.size := Nat.le_trans Z2 K11.1
  have KK11 : Keep h0 T11.heap [a] := (KK2).trans K11 (allS (Or.inl (List.mem_of_getElem? (i := 0) rfl)) all0)
  refine Ds (B := T11.setTop (mkF m 23 #[lR a, lR el] [])) (fun _ k => st11.trans k) ?_
  refine Ds (B := T11.setTop (mkF m 24 #[lR a, lR el] [(.int 1)])) (fun _ k => XS.iconst X11.here hx rfl (hb hby d5_23) k) ?_
  obtain ⟨fs, hr, hrun, hended, hW, hsame⟩ := X11.leave (v := some (.int 1)) (hlocks := hlk) (fun h => by rw [Bd.returns] at h; cases h)
  refine Done.fin (retN X11 hx (t := .boolean) Bd.returns (by simp) (hb hby d5_24) hr) hrun hended ⟨_, _, rfl, ?_, ⟨_, rfl⟩, hW, hsame.mono (by decide) (by decide)⟩
  show QrmA1_0 Z a el mc w kw h0 n0 _ T11.heap _
  exact ⟨g, _, rfl, N11, KK11, sz_g, O_g, f11_2, f11_3, f11_4, f11_5, f11_6⟩
theorem ef_rmA3_1 (m : MethodId) (a : Addr) (el : Addr) (t : Addr) : entryFrame m #[(.ref a), (.ref el), (.ref t), (.int 1)] 4 = mkF m 0 #[lR a, lR el, lR t, lI 1] [] := by first | (simp [entryFrame, mkF, argsToLocals, Value.category]; done) | rfl
def QrmA3_1 (Z : State) (a : Addr) (el : Addr) (t : Addr) (mc : Int32) (kt : ClassId) (el0 : Addr) (h0 : Heap) (n0 : Nat) (v : Option Value) (h : Heap) (L : List Loc) : Prop := v = none ∧ Fr n0 L ∧ Keep h0 h [a, t] ∧ Exa Z h a "java/util/ArrayList" ∧ Fld Z h a "java/util/AbstractList" "modCount" "I" (.int mc) ∧ Fld Z h a "java/util/ArrayList" "elementData" "[Ljava/lang/Object;" (.ref t) ∧ Fld Z h a "java/util/ArrayList" "size" "I" (.int 2) ∧ Arv Z h t kt (.object "java/lang/Object") (10 : Int32) [(.ref el0), (.ref el), .null, .null, .null, .null, .null, .null, .null, .null] .null
def PrmA3_1 (s : State) (Z : State) (a : Addr) (el : Addr) (t : Addr) (mc : Int32) (kt : ClassId) (el0 : Addr) (h0 : Heap) (n0 : Nat) : State → Outcome → Prop := fun U' o => ∃ v L, o = .returned v ∧ QrmA3_1 Z a el t mc kt el0 h0 n0 v U'.heap L ∧ FrameEnd s o U' L ({ frames := 0, cells := 0, slots := 0, locals := 0 } : Room).cells ({ frames := 0, cells := 0, slots := 0, locals := 0 } : Room).slots
set_option maxRecDepth 65536 in
set_option maxHeartbeats 40000000 in
theorem rmA3_1 (l : Launch) (Z : State) (a0 : Array Value) (hw : ∀ d ∈ tables_1, d.before a0 Z = true) (ws : List Jvm.Cond) (a : Addr) (el : Addr) (t : Addr) (mc : Int32) (kt : ClassId) (el0 : Addr) (h0 : Heap) (n0 : Nat) (Z0 : n0 ≤ h0.size) (Ea : Exa Z h0 a "java/util/ArrayList") (Fm : Fld Z h0 a "java/util/AbstractList" "modCount" "I" (.int mc)) (Fe : Fld Z h0 a "java/util/ArrayList" "elementData" "[Ljava/lang/Object;" (.ref t)) (Fs : Fld Z h0 a "java/util/ArrayList" "size" "I" (.int 1)) (ga : n0 ≤ a) (V_t : Arv Z h0 t kt (.object "java/lang/Object") (10 : Int32) [(.ref el0), .null, .null, .null, .null, .null, .null, .null, .null, .null] .null) (O_t : Ovr Z kt "java/lang/Object") (gt : n0 ≤ t) (nat : a ≠ t) (Ee : Exa Z h0 el "[I") :
    MetFree l (⟨"java/util/ArrayList", "add", "(Ljava/lang/Object;[Ljava/lang/Object;I)V"⟩ : MethodName) (head1 (Jvm.Cond.code (⟨"java/util/ArrayList", "add", "(Ljava/lang/Object;[Ljava/lang/Object;I)V"⟩ : MethodName) jdk_38_method_24_code 4 none :: ws) ({ frames := 0, cells := 0, slots := 0, locals := 0 } : Room)) (fun aa U => aa = #[(.ref a), (.ref el), (.ref t), (.int 1)] ∧ Z.Warmed39 U.vm ∧ U.heap = h0) (fun _ _ _ _ _ => True) (fun _ U o U' => ∃ v L, o = .returned v ∧ QrmA3_1 Z a el t mc kt el0 h0 n0 v U'.heap L ∧ FrameEnd U o U' L ({ frames := 0, cells := 0, slots := 0, locals := 0 } : Room).cells ({ frames := 0, cells := 0, slots := 0, locals := 0 } : Room).slots) := by
  refine MetFree.of_bodySF (plainFor_of_name pn_2) hisR ?_
  intro p e s m args below meth c s₁ Bd hml0 hP hK
  obtain ⟨rfl, hZ, hh⟩ := hP
  have hx := Bd.exec
  have hlk : meth.locks = false := by first | exact BodyLoose.notSynchronized Bd | exact Body.notSynchronized Bd
  have hby := Bd.bytes
  have hml : c.maxLocals = 4 := hml0
  have hown : s.vm.findClass "java/util/ArrayList" = some m.cls := findClass_of_methodNamed Bd.named
  have hnm := (name_of_methodNamed Bd.named Bd.method).1
  have X0 : Stand p l e ({ frames := 0, cells := 0, slots := 0, locals := 0 } : Room) s m #[(.ref a), (.ref el), (.ref t), (.int 1)] below meth c s₁ [] 0 0 := Stand.of_body Bd
  have e0 : s₁.heap = h0 := by rw [← hh, Bd.state]; rfl
  have N0 := Fr.nil n0
  show Done p e below (PrmA3_1 s Z a el t mc kt el0 h0 n0) (s₁.setTop (entryFrame m #[(.ref a), (.ref el), (.ref t), (.int 1)] 4))
  refine Ds (B := s₁.setTop (mkF m 0 #[lR a, lR el, lR t, lI 1] [])) (fun _ k => castTop (ef_rmA3_1 m a el t) k) ?_
  refine Ds (B := s₁.setTop (mkF m 2 #[lR a, lR el, lR t, lI 1] [(.ref t), (.int 1)])) (fun _ k => XS.iloadN X0.here hx rfl (hb hby d6_0) rfl (XS.aloadN X0.here hx rfl (hb hby d6_1) rfl rfl k)) ?_
  obtain ⟨cl1, Ar1, q1, S1, M1, -⟩ := id V_t
  refine Ds (B := s₁.setTop (mkF m 3 #[lR a, lR el, lR t, lI 1] [(.int 10), (.int 1)])) (fun _ k => X0.arraylength hx (by rw [e0]; exact Ar1.1) (State.isArrayOf_alike hZ.alike Ar1.2.1) (g := (mkF m 2 #[lR a, lR el, lR t, lI 1] [(.ref t), (.int 1)])) rfl rfl (hb hby d6_2) _ (by rw [len_of S1 M1]; exact k)) ?_
  refine Ds (B := s₁.setTop (mkF m 14 #[lR a, lR el, lR t, lI 1] [(.ref el), (.int 1), (.ref t)])) (fun _ k => XS.icmpYes X0.here hx rfl (pc0 := 3) (pc' := 11) rfl (hb hby d6_3) rfl (feq (by decide : ¬ ((1 : Int32) = (10 : Int32)))).2 (by decide) (by decide) (XS.aloadN X0.here hx rfl (hb hby d6_11) rfl rfl (XS.iloadN X0.here hx rfl (hb hby d6_12) rfl (XS.aloadN X0.here hx rfl (hb hby d6_13) rfl rfl k)))) ?_
  obtain ⟨cl2, Ar2, q2, S2, M2, H2, G2⟩ := id V_t
  have hin2 : ¬ ((1 : Int32) < 0 ∨ cl2.slots.size ≤ ((1 : Int32)).toNatClampNeg) := inb_of S2 ⟨by decide, by decide⟩
  obtain ⟨T2, h2, X2, e2, W2, st2⟩ := stR X0 hx hZ e0 Ar2 (j := (1 : Int32)) hin2 rfl (Sto.ofV Ar2 q2 O_t (Ins.of_exa Ee (hw _ mm57))) (g := (mkF m 14 #[lR a, lR el, lR t, lI 1] [(.ref el), (.int 1), (.ref t)])) rfl rfl (hb hby d6_14)
  have V2 : Arv Z h2 t kt (.object "java/lang/Object") (10 : Int32) [(.ref el0), (.ref el), .null, .null, .null, .null, .null, .null, .null, .null] .null := Arv.set Ar2 q2 S2 M2 H2 G2 rfl W2 1 rfl (Nat.le_of_ble_eq_true rfl)
  have N2 := Fr.snoc X2 N0 gt
  have Z2 : n0 ≤ h2.size := Nat.le_trans Z0 (Keep.of_wr W2).1
  have KK2 : Keep h0 h2 [a, t] := ((Keep.refl h0 [a, t])).wr W2 (Or.inl (List.mem_of_getElem? (i := 1) rfl))
  refine Ds (B := T2.setTop (mkF m 15 #[lR a, lR el, lR t, lI 1] [])) (fun _ k => st2 _ k) ?_
  refine Ds (B := T2.setTop (mkF m 19 #[lR a, lR el, lR t, lI 1] [(.int 2), (.ref a)])) (fun _ k => XS.aloadN X2.here hx rfl (hb hby d6_15) rfl rfl (XS.iloadN X2.here hx rfl (hb hby d6_16) rfl (XS.iconst X2.here hx rfl (hb hby d6_17) (XS.iadd X2.here hx rfl (hb hby d6_18) rfl k)))) ?_
  have c3 := (Exa.wr W2 Ea)
  have c4 := (Fld.other W2 Fs (Or.inl nat))
  obtain ⟨T5, h5, X5, e5, W5, st5⟩ := putF X2 hx hZ hown (host := "") (Or.inl (hw _ mm34)) Via.refl e2 c4 c3 (Or.inl (hw _ mm35)) (hw _ mm1) (ty := .int) (by decide) rfl rfl (g := (mkF m 19 #[lR a, lR el, lR t, lI 1] [(.int 2), (.ref a)])) rfl rfl (hb hby d6_19)
  have F5 := Fld.same W5 c4
  have N5 := Fr.snoc X5 N2 ga
  have Z5 : n0 ≤ h5.size := Nat.le_trans Z2 (Keep.of_wr W5).1
  have KK5 : Keep h0 h5 [a, t] := (KK2).wr W5 (Or.inl (List.mem_of_getElem? (i := 0) rfl))
  refine Ds (B := T5.setTop (mkF m 22 #[lR a, lR el, lR t, lI 1] [])) (fun _ k => st5 _ k) ?_
  obtain ⟨fs, hr, hrun, hended, hW, hsame⟩ := X5.leave (v := none) (hlocks := hlk) (fun _ => rfl)
  have c7 := (Exa.wr W5 c3)
  have c8 := (Fld.other W5 (Fld.other W2 Fm (Or.inl nat)) (Or.inr (slot_ne (Or.inl (hw _ mm22)) (Or.inl (hw _ mm35)) (by decide) (t := .int) (t' := .int) (by decide) (by decide))))
  have c9 := (Fld.other W5 (Fld.other W2 Fe (Or.inl nat)) (Or.inr (slot_ne (Or.inl (hw _ mm25)) (Or.inl (hw _ mm35)) (by decide) (t := (.array (.object "java/lang/Object"))) (t' := .int) (by decide) (by decide))))
  have c10 := (V2.other W5 (Ne.symm nat))
  refine Done.fin (X5.returnOut hx Bd.returns (hb hby d6_22) hr) hrun hended ⟨_, _, rfl, ?_, ⟨_, rfl⟩, hW, hsame.mono (by decide) (by decide)⟩
  show QrmA3_1 Z a el t mc kt el0 h0 n0 _ T5.heap _
  rw [e5]
  exact ⟨rfl, N5, KK5, c7, c8, c9, F5, c10⟩
theorem ef_rmA1_1 (m : MethodId) (a : Addr) (el : Addr) : entryFrame m #[(.ref a), (.ref el)] 2 = mkF m 0 #[lR a, lR el] [] := by first | (simp [entryFrame, mkF, argsToLocals, Value.category]; done) | rfl
def QrmA1_1 (Z : State) (a : Addr) (el : Addr) (t : Addr) (mc : Int32) (kt : ClassId) (el0 : Addr) (h0 : Heap) (n0 : Nat) (v : Option Value) (h : Heap) (L : List Loc) : Prop := v = some (.int 1) ∧ Fr n0 L ∧ Keep h0 h [a, t] ∧ Exa Z h a "java/util/ArrayList" ∧ Fld Z h a "java/util/AbstractList" "modCount" "I" (.int (mc + (1 : Int32))) ∧ Fld Z h a "java/util/ArrayList" "elementData" "[Ljava/lang/Object;" (.ref t) ∧ Fld Z h a "java/util/ArrayList" "size" "I" (.int 2) ∧ Arv Z h t kt (.object "java/lang/Object") (10 : Int32) [(.ref el0), (.ref el), .null, .null, .null, .null, .null, .null, .null, .null] .null
def PrmA1_1 (s : State) (Z : State) (a : Addr) (el : Addr) (t : Addr) (mc : Int32) (kt : ClassId) (el0 : Addr) (h0 : Heap) (n0 : Nat) : State → Outcome → Prop := fun U' o => ∃ v L, o = .returned v ∧ QrmA1_1 Z a el t mc kt el0 h0 n0 v U'.heap L ∧ FrameEnd s o U' L ({ frames := 1, cells := 0, slots := 0, locals := 15 } : Room).cells ({ frames := 1, cells := 0, slots := 0, locals := 15 } : Room).slots
set_option maxRecDepth 65536 in
set_option maxHeartbeats 40000000 in
theorem rmA1_1 (l : Launch) (Z : State) (a0 : Array Value) (hw : ∀ d ∈ tables_1, d.before a0 Z = true) (ws : List Jvm.Cond) (a : Addr) (el : Addr) (t : Addr) (mc : Int32) (kt : ClassId) (el0 : Addr) (h0 : Heap) (n0 : Nat) (Z0 : n0 ≤ h0.size) (Ea : Exa Z h0 a "java/util/ArrayList") (Fm : Fld Z h0 a "java/util/AbstractList" "modCount" "I" (.int mc)) (Fe : Fld Z h0 a "java/util/ArrayList" "elementData" "[Ljava/lang/Object;" (.ref t)) (Fs : Fld Z h0 a "java/util/ArrayList" "size" "I" (.int 1)) (ga : n0 ≤ a) (V_t : Arv Z h0 t kt (.object "java/lang/Object") (10 : Int32) [(.ref el0), .null, .null, .null, .null, .null, .null, .null, .null, .null] .null) (O_t : Ovr Z kt "java/lang/Object") (gt : n0 ≤ t) (nat : a ≠ t) (Ee : Exa Z h0 el "[I") :
    MetFree l (⟨"java/util/ArrayList", "add", "(Ljava/lang/Object;)Z"⟩ : MethodName) (head1 (Jvm.Cond.code (⟨"java/util/ArrayList", "add", "(Ljava/lang/Object;)Z"⟩ : MethodName) jdk_38_method_25_code 2 (some .boolean) :: ws) ({ frames := 1, cells := 0, slots := 0, locals := 15 } : Room)) (fun aa U => aa = #[(.ref a), (.ref el)] ∧ Z.Warmed39 U.vm ∧ U.heap = h0) (fun _ _ _ _ _ => True) (fun _ U o U' => ∃ v L, o = .returned v ∧ QrmA1_1 Z a el t mc kt el0 h0 n0 v U'.heap L ∧ FrameEnd U o U' L ({ frames := 1, cells := 0, slots := 0, locals := 15 } : Room).cells ({ frames := 1, cells := 0, slots := 0, locals := 15 } : Room).slots) := by
  refine MetFree.of_bodySF (plainFor_of_name pn_2) hisR ?_
  intro p e s m args below meth c s₁ Bd hml0 hP hK
  obtain ⟨rfl, hZ, hh⟩ := hP
  have hx := Bd.exec
  have hlk : meth.locks = false := by first | exact BodyLoose.notSynchronized Bd | exact Body.notSynchronized Bd
  have hby := Bd.bytes
  have hml : c.maxLocals = 2 := hml0
  have hown : s.vm.findClass "java/util/ArrayList" = some m.cls := findClass_of_methodNamed Bd.named
  have hnm := (name_of_methodNamed Bd.named Bd.method).1
  have X0 : Stand p l e ({ frames := 1, cells := 0, slots := 0, locals := 15 } : Room) s m #[(.ref a), (.ref el)] below meth c s₁ [] 0 0 := Stand.of_body Bd
  have e0 : s₁.heap = h0 := by rw [← hh, Bd.state]; rfl
  have N0 := Fr.nil n0
  show Done p e below (PrmA1_1 s Z a el t mc kt el0 h0 n0) (s₁.setTop (entryFrame m #[(.ref a), (.ref el)] 2))
  refine Ds (B := s₁.setTop (mkF m 0 #[lR a, lR el] [])) (fun _ k => castTop (ef_rmA1_1 m a el) k) ?_
  refine Ds (B := s₁.setTop (mkF m 2 #[lR a, lR el] [(.ref a), (.ref a)])) (fun _ k => XS.aloadN X0.here hx rfl (hb hby d5_0) rfl rfl (XS.dup X0.here hx rfl (hb hby d5_1) rfl rfl k)) ?_
  obtain ⟨T1, X1, e1, st1⟩ := getF X0 hx hZ hown (host := "") (Or.inl (hw _ mm32)) (Via.of (hw _ mm33)) e0 Fm (g := (mkF m 2 #[lR a, lR el] [(.ref a), (.ref a)])) rfl rfl (hb hby d5_2)
  refine Ds (B := T1.setTop (mkF m 5 #[lR a, lR el] [(.int mc), (.ref a)])) (fun _ k => st1 _ k) ?_
  refine Ds (B := T1.setTop (mkF m 7 #[lR a, lR el] [(.int (mc + (1 : Int32))), (.ref a)])) (fun _ k => XS.iconst X1.here hx rfl (hb hby d5_5) (XS.iadd X1.here hx rfl (hb hby d5_6) rfl k)) ?_
  obtain ⟨T2, h2, X2, e2, W2, st2⟩ := putF X1 hx hZ hown (host := "") (Or.inl (hw _ mm32)) (Via.of (hw _ mm33)) e1 Fm Ea (Or.inl (hw _ mm22)) (hw _ mm1) (ty := .int) (by decide) rfl rfl (g := (mkF m 7 #[lR a, lR el] [(.int (mc + (1 : Int32))), (.ref a)])) rfl rfl (hb hby d5_7)
  have F2 := Fld.same W2 Fm
  have N2 := Fr.snoc X2 N0 ga
  have Z2 : n0 ≤ h2.size := Nat.le_trans Z0 (Keep.of_wr W2).1
  have KK2 : Keep h0 h2 [a, t] := ((Keep.refl h0 [a, t])).wr W2 (Or.inl (List.mem_of_getElem? (i := 0) rfl))
  refine Ds (B := T2.setTop (mkF m 10 #[lR a, lR el] [])) (fun _ k => st2 _ k) ?_
  refine Ds (B := T2.setTop (mkF m 13 #[lR a, lR el] [(.ref a), (.ref el), (.ref a)])) (fun _ k => XS.aloadN X2.here hx rfl (hb hby d5_10) rfl rfl (XS.aloadN X2.here hx rfl (hb hby d5_11) rfl rfl (XS.aloadN X2.here hx rfl (hb hby d5_12) rfl rfl k))) ?_
  have c4 := (Fld.other W2 Fe (Or.inr (slot_ne (Or.inl (hw _ mm25)) (Or.inl (hw _ mm22)) (by decide) (t := (.array (.object "java/lang/Object"))) (t' := .int) (by decide) (by decide))))
  obtain ⟨T3, X3, e3, st3⟩ := getF X2 hx hZ hown (host := "") (Or.inl (hw _ mm24)) Via.refl e2 c4 (g := (mkF m 13 #[lR a, lR el] [(.ref a), (.ref el), (.ref a)])) rfl rfl (hb hby d5_13)
  refine Ds (B := T3.setTop (mkF m 16 #[lR a, lR el] [(.ref t), (.ref el), (.ref a)])) (fun _ k => st3 _ k) ?_
  refine Ds (B := T3.setTop (mkF m 17 #[lR a, lR el] [(.ref a), (.ref t), (.ref el), (.ref a)])) (fun _ k => XS.aloadN X3.here hx rfl (hb hby d5_16) rfl rfl k) ?_
  have c6 := (Fld.other W2 Fs (Or.inr (slot_ne (Or.inl (hw _ mm35)) (Or.inl (hw _ mm22)) (by decide) (t := .int) (t' := .int) (by decide) (by decide))))
  obtain ⟨T5, X5, e5, st5⟩ := getF X3 hx hZ hown (host := "") (Or.inl (hw _ mm34)) Via.refl e3 c6 (g := (mkF m 17 #[lR a, lR el] [(.ref a), (.ref t), (.ref el), (.ref a)])) rfl rfl (hb hby d5_17)
  refine Ds (B := T5.setTop (mkF m 20 #[lR a, lR el] [(.int 1), (.ref t), (.ref el), (.ref a)])) (fun _ k => st5 _ k) ?_
  have c7 := (Exa.wr W2 Ea)
  have c8 := (V_t.other W2 (Ne.symm nat))
  have c9 := (Exa.wr W2 Ee)
  obtain ⟨cq10, q10, q10'⟩ := c7.cell
  obtain ⟨_, _, ⟨T10, L10, k10, n10⟩, -, X10, ⟨Lc10, hQ10, l10, y10, z10⟩, st10⟩ := X5.privateBack hx (y := (⟨"java/util/ArrayList", "add", "(Ljava/lang/Object;[Ljava/lang/Object;I)V"⟩ : MethodName)) hown (mvT hZ (hw _ mm36)) (mvT hZ (hw _ mm37)) (mvT hZ (hw _ mm39)) (Cond.privateMethod_at (mvP hZ (hw _ mm38) (args := #[]))) (mvT hZ (hw _ mm40)) (by decide) (backOf (W := 0) (rmA3_1 l Z a0 hw [] a el t (mc + (1 : Int32)) kt el0 h2 n0 Z2 c7 F2 c4 c6 ga c8 O_t gt nat c9) hZ (hw _ mm40) (hw _ mm2) (by decide) (by decide)) (g := (mkF m 20 #[lR a, lR el] [(.int 1), (.ref t), (.ref el), (.ref a)])) rfl (by rw [hml]; rfl) (Steps.refl _) (a := a) (by rw [e5]; exact q10) q10' (argsL := [(.ref el), (.ref t), (.int 1)]) (rest := []) (lenOf pd_4 rfl) rfl (by show 2 * 0 + _ ≤ _; exact Nat.le_of_eq rfl) (hb hby d5_20) (fun _ _ => ⟨rfl, e5, (by decide : 0 + 0 ≤ _), (by decide : 0 + 0 ≤ _)⟩)
  dsimp only [Pt.U, Pt.locs, Pt.cells, Pt.slots] at X10 l10 y10 z10 st10 hQ10
  rw [l10, y10, z10] at X10
  obtain ⟨hv10, N10q, K10, f10_0, f10_1, f10_2, f10_3, f10_4⟩ := hQ10
  rw [hv10] at st10
  have N10 := Fr.app N2 N10q
  have Z10 : n0 ≤ T10.heap.size := Nat.le_trans Z2 K10.1
  have KK10 : Keep h0 T10.heap [a, t] := (KK2).trans K10 (allS (Or.inl (List.mem_of_getElem? (i := 0) rfl)) (allS (Or.inl (List.mem_of_getElem? (i := 1) rfl)) all0))
  refine Ds (B := T10.setTop (mkF m 23 #[lR a, lR el] [])) (fun _ k => st10.trans k) ?_
  refine Ds (B := T10.setTop (mkF m 24 #[lR a, lR el] [(.int 1)])) (fun _ k => XS.iconst X10.here hx rfl (hb hby d5_23) k) ?_
  obtain ⟨fs, hr, hrun, hended, hW, hsame⟩ := X10.leave (v := some (.int 1)) (hlocks := hlk) (fun h => by rw [Bd.returns] at h; cases h)
  refine Done.fin (retN X10 hx (t := .boolean) Bd.returns (by simp) (hb hby d5_24) hr) hrun hended ⟨_, _, rfl, ?_, ⟨_, rfl⟩, hW, hsame.mono (by decide) (by decide)⟩
  show QrmA1_1 Z a el t mc kt el0 h0 n0 _ T10.heap _
  exact ⟨rfl, N10, KK10, f10_0, f10_1, f10_2, f10_3, f10_4⟩
theorem ef_rmA3_2 (m : MethodId) (a : Addr) (el : Addr) (t : Addr) : entryFrame m #[(.ref a), (.ref el), (.ref t), (.int 2)] 4 = mkF m 0 #[lR a, lR el, lR t, lI 2] [] := by first | (simp [entryFrame, mkF, argsToLocals, Value.category]; done) | rfl
def QrmA3_2 (Z : State) (a : Addr) (el : Addr) (t : Addr) (mc : Int32) (kt : ClassId) (el0 : Addr) (el1 : Addr) (h0 : Heap) (n0 : Nat) (v : Option Value) (h : Heap) (L : List Loc) : Prop := v = none ∧ Fr n0 L ∧ Keep h0 h [a, t] ∧ Exa Z h a "java/util/ArrayList" ∧ Fld Z h a "java/util/AbstractList" "modCount" "I" (.int mc) ∧ Fld Z h a "java/util/ArrayList" "elementData" "[Ljava/lang/Object;" (.ref t) ∧ Fld Z h a "java/util/ArrayList" "size" "I" (.int 3) ∧ Arv Z h t kt (.object "java/lang/Object") (10 : Int32) [(.ref el0), (.ref el1), (.ref el), .null, .null, .null, .null, .null, .null, .null] .null
def PrmA3_2 (s : State) (Z : State) (a : Addr) (el : Addr) (t : Addr) (mc : Int32) (kt : ClassId) (el0 : Addr) (el1 : Addr) (h0 : Heap) (n0 : Nat) : State → Outcome → Prop := fun U' o => ∃ v L, o = .returned v ∧ QrmA3_2 Z a el t mc kt el0 el1 h0 n0 v U'.heap L ∧ FrameEnd s o U' L ({ frames := 0, cells := 0, slots := 0, locals := 0 } : Room).cells ({ frames := 0, cells := 0, slots := 0, locals := 0 } : Room).slots
set_option maxRecDepth 65536 in
set_option maxHeartbeats 40000000 in
theorem rmA3_2 (l : Launch) (Z : State) (a0 : Array Value) (hw : ∀ d ∈ tables_1, d.before a0 Z = true) (ws : List Jvm.Cond) (a : Addr) (el : Addr) (t : Addr) (mc : Int32) (kt : ClassId) (el0 : Addr) (el1 : Addr) (h0 : Heap) (n0 : Nat) (Z0 : n0 ≤ h0.size) (Ea : Exa Z h0 a "java/util/ArrayList") (Fm : Fld Z h0 a "java/util/AbstractList" "modCount" "I" (.int mc)) (Fe : Fld Z h0 a "java/util/ArrayList" "elementData" "[Ljava/lang/Object;" (.ref t)) (Fs : Fld Z h0 a "java/util/ArrayList" "size" "I" (.int 2)) (ga : n0 ≤ a) (V_t : Arv Z h0 t kt (.object "java/lang/Object") (10 : Int32) [(.ref el0), (.ref el1), .null, .null, .null, .null, .null, .null, .null, .null] .null) (O_t : Ovr Z kt "java/lang/Object") (gt : n0 ≤ t) (nat : a ≠ t) (Ee : Exa Z h0 el "[I") :
    MetFree l (⟨"java/util/ArrayList", "add", "(Ljava/lang/Object;[Ljava/lang/Object;I)V"⟩ : MethodName) (head1 (Jvm.Cond.code (⟨"java/util/ArrayList", "add", "(Ljava/lang/Object;[Ljava/lang/Object;I)V"⟩ : MethodName) jdk_38_method_24_code 4 none :: ws) ({ frames := 0, cells := 0, slots := 0, locals := 0 } : Room)) (fun aa U => aa = #[(.ref a), (.ref el), (.ref t), (.int 2)] ∧ Z.Warmed39 U.vm ∧ U.heap = h0) (fun _ _ _ _ _ => True) (fun _ U o U' => ∃ v L, o = .returned v ∧ QrmA3_2 Z a el t mc kt el0 el1 h0 n0 v U'.heap L ∧ FrameEnd U o U' L ({ frames := 0, cells := 0, slots := 0, locals := 0 } : Room).cells ({ frames := 0, cells := 0, slots := 0, locals := 0 } : Room).slots) := by
  refine MetFree.of_bodySF (plainFor_of_name pn_2) hisR ?_
  intro p e s m args below meth c s₁ Bd hml0 hP hK
  obtain ⟨rfl, hZ, hh⟩ := hP
  have hx := Bd.exec
  have hlk : meth.locks = false := by first | exact BodyLoose.notSynchronized Bd | exact Body.notSynchronized Bd
  have hby := Bd.bytes
  have hml : c.maxLocals = 4 := hml0
  have hown : s.vm.findClass "java/util/ArrayList" = some m.cls := findClass_of_methodNamed Bd.named
  have hnm := (name_of_methodNamed Bd.named Bd.method).1
  have X0 : Stand p l e ({ frames := 0, cells := 0, slots := 0, locals := 0 } : Room) s m #[(.ref a), (.ref el), (.ref t), (.int 2)] below meth c s₁ [] 0 0 := Stand.of_body Bd
  have e0 : s₁.heap = h0 := by rw [← hh, Bd.state]; rfl
  have N0 := Fr.nil n0
  show Done p e below (PrmA3_2 s Z a el t mc kt el0 el1 h0 n0) (s₁.setTop (entryFrame m #[(.ref a), (.ref el), (.ref t), (.int 2)] 4))
  refine Ds (B := s₁.setTop (mkF m 0 #[lR a, lR el, lR t, lI 2] [])) (fun _ k => castTop (ef_rmA3_2 m a el t) k) ?_
  refine Ds (B := s₁.setTop (mkF m 2 #[lR a, lR el, lR t, lI 2] [(.ref t), (.int 2)])) (fun _ k => XS.iloadN X0.here hx rfl (hb hby d6_0) rfl (XS.aloadN X0.here hx rfl (hb hby d6_1) rfl rfl k)) ?_
  obtain ⟨cl1, Ar1, q1, S1, M1, -⟩ := id V_t
  refine Ds (B := s₁.setTop (mkF m 3 #[lR a, lR el, lR t, lI 2] [(.int 10), (.int 2)])) (fun _ k => X0.arraylength hx (by rw [e0]; exact Ar1.1) (State.isArrayOf_alike hZ.alike Ar1.2.1) (g := (mkF m 2 #[lR a, lR el, lR t, lI 2] [(.ref t), (.int 2)])) rfl rfl (hb hby d6_2) _ (by rw [len_of S1 M1]; exact k)) ?_
  refine Ds (B := s₁.setTop (mkF m 14 #[lR a, lR el, lR t, lI 2] [(.ref el), (.int 2), (.ref t)])) (fun _ k => XS.icmpYes X0.here hx rfl (pc0 := 3) (pc' := 11) rfl (hb hby d6_3) rfl (feq (by decide : ¬ ((2 : Int32) = (10 : Int32)))).2 (by decide) (by decide) (XS.aloadN X0.here hx rfl (hb hby d6_11) rfl rfl (XS.iloadN X0.here hx rfl (hb hby d6_12) rfl (XS.aloadN X0.here hx rfl (hb hby d6_13) rfl rfl k)))) ?_
  obtain ⟨cl2, Ar2, q2, S2, M2, H2, G2⟩ := id V_t
  have hin2 : ¬ ((2 : Int32) < 0 ∨ cl2.slots.size ≤ ((2 : Int32)).toNatClampNeg) := inb_of S2 ⟨by decide, by decide⟩
  obtain ⟨T2, h2, X2, e2, W2, st2⟩ := stR X0 hx hZ e0 Ar2 (j := (2 : Int32)) hin2 rfl (Sto.ofV Ar2 q2 O_t (Ins.of_exa Ee (hw _ mm57))) (g := (mkF m 14 #[lR a, lR el, lR t, lI 2] [(.ref el), (.int 2), (.ref t)])) rfl rfl (hb hby d6_14)
  have V2 : Arv Z h2 t kt (.object "java/lang/Object") (10 : Int32) [(.ref el0), (.ref el1), (.ref el), .null, .null, .null, .null, .null, .null, .null] .null := Arv.set Ar2 q2 S2 M2 H2 G2 rfl W2 2 rfl (Nat.le_of_ble_eq_true rfl)
  have N2 := Fr.snoc X2 N0 gt
  have Z2 : n0 ≤ h2.size := Nat.le_trans Z0 (Keep.of_wr W2).1
  have KK2 : Keep h0 h2 [a, t] := ((Keep.refl h0 [a, t])).wr W2 (Or.inl (List.mem_of_getElem? (i := 1) rfl))
  refine Ds (B := T2.setTop (mkF m 15 #[lR a, lR el, lR t, lI 2] [])) (fun _ k => st2 _ k) ?_
  refine Ds (B := T2.setTop (mkF m 19 #[lR a, lR el, lR t, lI 2] [(.int 3), (.ref a)])) (fun _ k => XS.aloadN X2.here hx rfl (hb hby d6_15) rfl rfl (XS.iloadN X2.here hx rfl (hb hby d6_16) rfl (XS.iconst X2.here hx rfl (hb hby d6_17) (XS.iadd X2.here hx rfl (hb hby d6_18) rfl k)))) ?_
  have c3 := (Exa.wr W2 Ea)
  have c4 := (Fld.other W2 Fs (Or.inl nat))
  obtain ⟨T5, h5, X5, e5, W5, st5⟩ := putF X2 hx hZ hown (host := "") (Or.inl (hw _ mm34)) Via.refl e2 c4 c3 (Or.inl (hw _ mm35)) (hw _ mm1) (ty := .int) (by decide) rfl rfl (g := (mkF m 19 #[lR a, lR el, lR t, lI 2] [(.int 3), (.ref a)])) rfl rfl (hb hby d6_19)
  have F5 := Fld.same W5 c4
  have N5 := Fr.snoc X5 N2 ga
  have Z5 : n0 ≤ h5.size := Nat.le_trans Z2 (Keep.of_wr W5).1
  have KK5 : Keep h0 h5 [a, t] := (KK2).wr W5 (Or.inl (List.mem_of_getElem? (i := 0) rfl))
  refine Ds (B := T5.setTop (mkF m 22 #[lR a, lR el, lR t, lI 2] [])) (fun _ k => st5 _ k) ?_
  obtain ⟨fs, hr, hrun, hended, hW, hsame⟩ := X5.leave (v := none) (hlocks := hlk) (fun _ => rfl)
  have c7 := (Exa.wr W5 c3)
  have c8 := (Fld.other W5 (Fld.other W2 Fm (Or.inl nat)) (Or.inr (slot_ne (Or.inl (hw _ mm22)) (Or.inl (hw _ mm35)) (by decide) (t := .int) (t' := .int) (by decide) (by decide))))
  have c9 := (Fld.other W5 (Fld.other W2 Fe (Or.inl nat)) (Or.inr (slot_ne (Or.inl (hw _ mm25)) (Or.inl (hw _ mm35)) (by decide) (t := (.array (.object "java/lang/Object"))) (t' := .int) (by decide) (by decide))))
  have c10 := (V2.other W5 (Ne.symm nat))
  refine Done.fin (X5.returnOut hx Bd.returns (hb hby d6_22) hr) hrun hended ⟨_, _, rfl, ?_, ⟨_, rfl⟩, hW, hsame.mono (by decide) (by decide)⟩
  show QrmA3_2 Z a el t mc kt el0 el1 h0 n0 _ T5.heap _
  rw [e5]
  exact ⟨rfl, N5, KK5, c7, c8, c9, F5, c10⟩
theorem ef_rmA1_2 (m : MethodId) (a : Addr) (el : Addr) : entryFrame m #[(.ref a), (.ref el)] 2 = mkF m 0 #[lR a, lR el] [] := by first | (simp [entryFrame, mkF, argsToLocals, Value.category]; done) | rfl
def QrmA1_2 (Z : State) (a : Addr) (el : Addr) (t : Addr) (mc : Int32) (kt : ClassId) (el0 : Addr) (el1 : Addr) (h0 : Heap) (n0 : Nat) (v : Option Value) (h : Heap) (L : List Loc) : Prop := v = some (.int 1) ∧ Fr n0 L ∧ Keep h0 h [a, t] ∧ Exa Z h a "java/util/ArrayList" ∧ Fld Z h a "java/util/AbstractList" "modCount" "I" (.int (mc + (1 : Int32))) ∧ Fld Z h a "java/util/ArrayList" "elementData" "[Ljava/lang/Object;" (.ref t) ∧ Fld Z h a "java/util/ArrayList" "size" "I" (.int 3) ∧ Arv Z h t kt (.object "java/lang/Object") (10 : Int32) [(.ref el0), (.ref el1), (.ref el), .null, .null, .null, .null, .null, .null, .null] .null
def PrmA1_2 (s : State) (Z : State) (a : Addr) (el : Addr) (t : Addr) (mc : Int32) (kt : ClassId) (el0 : Addr) (el1 : Addr) (h0 : Heap) (n0 : Nat) : State → Outcome → Prop := fun U' o => ∃ v L, o = .returned v ∧ QrmA1_2 Z a el t mc kt el0 el1 h0 n0 v U'.heap L ∧ FrameEnd s o U' L ({ frames := 1, cells := 0, slots := 0, locals := 15 } : Room).cells ({ frames := 1, cells := 0, slots := 0, locals := 15 } : Room).slots
set_option maxRecDepth 65536 in
set_option maxHeartbeats 40000000 in
theorem rmA1_2 (l : Launch) (Z : State) (a0 : Array Value) (hw : ∀ d ∈ tables_1, d.before a0 Z = true) (ws : List Jvm.Cond) (a : Addr) (el : Addr) (t : Addr) (mc : Int32) (kt : ClassId) (el0 : Addr) (el1 : Addr) (h0 : Heap) (n0 : Nat) (Z0 : n0 ≤ h0.size) (Ea : Exa Z h0 a "java/util/ArrayList") (Fm : Fld Z h0 a "java/util/AbstractList" "modCount" "I" (.int mc)) (Fe : Fld Z h0 a "java/util/ArrayList" "elementData" "[Ljava/lang/Object;" (.ref t)) (Fs : Fld Z h0 a "java/util/ArrayList" "size" "I" (.int 2)) (ga : n0 ≤ a) (V_t : Arv Z h0 t kt (.object "java/lang/Object") (10 : Int32) [(.ref el0), (.ref el1), .null, .null, .null, .null, .null, .null, .null, .null] .null) (O_t : Ovr Z kt "java/lang/Object") (gt : n0 ≤ t) (nat : a ≠ t) (Ee : Exa Z h0 el "[I") :
    MetFree l (⟨"java/util/ArrayList", "add", "(Ljava/lang/Object;)Z"⟩ : MethodName) (head1 (Jvm.Cond.code (⟨"java/util/ArrayList", "add", "(Ljava/lang/Object;)Z"⟩ : MethodName) jdk_38_method_25_code 2 (some .boolean) :: ws) ({ frames := 1, cells := 0, slots := 0, locals := 15 } : Room)) (fun aa U => aa = #[(.ref a), (.ref el)] ∧ Z.Warmed39 U.vm ∧ U.heap = h0) (fun _ _ _ _ _ => True) (fun _ U o U' => ∃ v L, o = .returned v ∧ QrmA1_2 Z a el t mc kt el0 el1 h0 n0 v U'.heap L ∧ FrameEnd U o U' L ({ frames := 1, cells := 0, slots := 0, locals := 15 } : Room).cells ({ frames := 1, cells := 0, slots := 0, locals := 15 } : Room).slots) := by
  refine MetFree.of_bodySF (plainFor_of_name pn_2) hisR ?_
  intro p e s m args below meth c s₁ Bd hml0 hP hK
  obtain ⟨rfl, hZ, hh⟩ := hP
  have hx := Bd.exec
  have hlk : meth.locks = false := by first | exact BodyLoose.notSynchronized Bd | exact Body.notSynchronized Bd
  have hby := Bd.bytes
  have hml : c.maxLocals = 2 := hml0
  have hown : s.vm.findClass "java/util/ArrayList" = some m.cls := findClass_of_methodNamed Bd.named
  have hnm := (name_of_methodNamed Bd.named Bd.method).1
  have X0 : Stand p l e ({ frames := 1, cells := 0, slots := 0, locals := 15 } : Room) s m #[(.ref a), (.ref el)] below meth c s₁ [] 0 0 := Stand.of_body Bd
  have e0 : s₁.heap = h0 := by rw [← hh, Bd.state]; rfl
  have N0 := Fr.nil n0
  show Done p e below (PrmA1_2 s Z a el t mc kt el0 el1 h0 n0) (s₁.setTop (entryFrame m #[(.ref a), (.ref el)] 2))
  refine Ds (B := s₁.setTop (mkF m 0 #[lR a, lR el] [])) (fun _ k => castTop (ef_rmA1_2 m a el) k) ?_
  refine Ds (B := s₁.setTop (mkF m 2 #[lR a, lR el] [(.ref a), (.ref a)])) (fun _ k => XS.aloadN X0.here hx rfl (hb hby d5_0) rfl rfl (XS.dup X0.here hx rfl (hb hby d5_1) rfl rfl k)) ?_
  obtain ⟨T1, X1, e1, st1⟩ := getF X0 hx hZ hown (host := "") (Or.inl (hw _ mm32)) (Via.of (hw _ mm33)) e0 Fm (g := (mkF m 2 #[lR a, lR el] [(.ref a), (.ref a)])) rfl rfl (hb hby d5_2)
  refine Ds (B := T1.setTop (mkF m 5 #[lR a, lR el] [(.int mc), (.ref a)])) (fun _ k => st1 _ k) ?_
  refine Ds (B := T1.setTop (mkF m 7 #[lR a, lR el] [(.int (mc + (1 : Int32))), (.ref a)])) (fun _ k => XS.iconst X1.here hx rfl (hb hby d5_5) (XS.iadd X1.here hx rfl (hb hby d5_6) rfl k)) ?_
  obtain ⟨T2, h2, X2, e2, W2, st2⟩ := putF X1 hx hZ hown (host := "") (Or.inl (hw _ mm32)) (Via.of (hw _ mm33)) e1 Fm Ea (Or.inl (hw _ mm22)) (hw _ mm1) (ty := .int) (by decide) rfl rfl (g := (mkF m 7 #[lR a, lR el] [(.int (mc + (1 : Int32))), (.ref a)])) rfl rfl (hb hby d5_7)
  have F2 := Fld.same W2 Fm
  have N2 := Fr.snoc X2 N0 ga
  have Z2 : n0 ≤ h2.size := Nat.le_trans Z0 (Keep.of_wr W2).1
  have KK2 : Keep h0 h2 [a, t] := ((Keep.refl h0 [a, t])).wr W2 (Or.inl (List.mem_of_getElem? (i := 0) rfl))
  refine Ds (B := T2.setTop (mkF m 10 #[lR a, lR el] [])) (fun _ k => st2 _ k) ?_
  refine Ds (B := T2.setTop (mkF m 13 #[lR a, lR el] [(.ref a), (.ref el), (.ref a)])) (fun _ k => XS.aloadN X2.here hx rfl (hb hby d5_10) rfl rfl (XS.aloadN X2.here hx rfl (hb hby d5_11) rfl rfl (XS.aloadN X2.here hx rfl (hb hby d5_12) rfl rfl k))) ?_
  have c4 := (Fld.other W2 Fe (Or.inr (slot_ne (Or.inl (hw _ mm25)) (Or.inl (hw _ mm22)) (by decide) (t := (.array (.object "java/lang/Object"))) (t' := .int) (by decide) (by decide))))
  obtain ⟨T3, X3, e3, st3⟩ := getF X2 hx hZ hown (host := "") (Or.inl (hw _ mm24)) Via.refl e2 c4 (g := (mkF m 13 #[lR a, lR el] [(.ref a), (.ref el), (.ref a)])) rfl rfl (hb hby d5_13)
  refine Ds (B := T3.setTop (mkF m 16 #[lR a, lR el] [(.ref t), (.ref el), (.ref a)])) (fun _ k => st3 _ k) ?_
  refine Ds (B := T3.setTop (mkF m 17 #[lR a, lR el] [(.ref a), (.ref t), (.ref el), (.ref a)])) (fun _ k => XS.aloadN X3.here hx rfl (hb hby d5_16) rfl rfl k) ?_
  have c6 := (Fld.other W2 Fs (Or.inr (slot_ne (Or.inl (hw _ mm35)) (Or.inl (hw _ mm22)) (by decide) (t := .int) (t' := .int) (by decide) (by decide))))
  obtain ⟨T5, X5, e5, st5⟩ := getF X3 hx hZ hown (host := "") (Or.inl (hw _ mm34)) Via.refl e3 c6 (g := (mkF m 17 #[lR a, lR el] [(.ref a), (.ref t), (.ref el), (.ref a)])) rfl rfl (hb hby d5_17)
  refine Ds (B := T5.setTop (mkF m 20 #[lR a, lR el] [(.int 2), (.ref t), (.ref el), (.ref a)])) (fun _ k => st5 _ k) ?_
  have c7 := (Exa.wr W2 Ea)
  have c8 := (V_t.other W2 (Ne.symm nat))
  have c9 := (Exa.wr W2 Ee)
  obtain ⟨cq10, q10, q10'⟩ := c7.cell
  obtain ⟨_, _, ⟨T10, L10, k10, n10⟩, -, X10, ⟨Lc10, hQ10, l10, y10, z10⟩, st10⟩ := X5.privateBack hx (y := (⟨"java/util/ArrayList", "add", "(Ljava/lang/Object;[Ljava/lang/Object;I)V"⟩ : MethodName)) hown (mvT hZ (hw _ mm36)) (mvT hZ (hw _ mm37)) (mvT hZ (hw _ mm39)) (Cond.privateMethod_at (mvP hZ (hw _ mm38) (args := #[]))) (mvT hZ (hw _ mm40)) (by decide) (backOf (W := 0) (rmA3_2 l Z a0 hw [] a el t (mc + (1 : Int32)) kt el0 el1 h2 n0 Z2 c7 F2 c4 c6 ga c8 O_t gt nat c9) hZ (hw _ mm40) (hw _ mm2) (by decide) (by decide)) (g := (mkF m 20 #[lR a, lR el] [(.int 2), (.ref t), (.ref el), (.ref a)])) rfl (by rw [hml]; rfl) (Steps.refl _) (a := a) (by rw [e5]; exact q10) q10' (argsL := [(.ref el), (.ref t), (.int 2)]) (rest := []) (lenOf pd_4 rfl) rfl (by show 2 * 0 + _ ≤ _; exact Nat.le_of_eq rfl) (hb hby d5_20) (fun _ _ => ⟨rfl, e5, (by decide : 0 + 0 ≤ _), (by decide : 0 + 0 ≤ _)⟩)
  dsimp only [Pt.U, Pt.locs, Pt.cells, Pt.slots] at X10 l10 y10 z10 st10 hQ10
  rw [l10, y10, z10] at X10
  obtain ⟨hv10, N10q, K10, f10_0, f10_1, f10_2, f10_3, f10_4⟩ := hQ10
  rw [hv10] at st10
  have N10 := Fr.app N2 N10q
  have Z10 : n0 ≤ T10.heap.size := Nat.le_trans Z2 K10.1
  have KK10 : Keep h0 T10.heap [a, t] := (KK2).trans K10 (allS (Or.inl (List.mem_of_getElem? (i := 0) rfl)) (allS (Or.inl (List.mem_of_getElem? (i := 1) rfl)) all0))
  refine Ds (B := T10.setTop (mkF m 23 #[lR a, lR el] [])) (fun _ k => st10.trans k) ?_
  refine Ds (B := T10.setTop (mkF m 24 #[lR a, lR el] [(.int 1)])) (fun _ k => XS.iconst X10.here hx rfl (hb hby d5_23) k) ?_
  obtain ⟨fs, hr, hrun, hended, hW, hsame⟩ := X10.leave (v := some (.int 1)) (hlocks := hlk) (fun h => by rw [Bd.returns] at h; cases h)
  refine Done.fin (retN X10 hx (t := .boolean) Bd.returns (by simp) (hb hby d5_24) hr) hrun hended ⟨_, _, rfl, ?_, ⟨_, rfl⟩, hW, hsame.mono (by decide) (by decide)⟩
  show QrmA1_2 Z a el t mc kt el0 el1 h0 n0 _ T10.heap _
  exact ⟨rfl, N10, KK10, f10_0, f10_1, f10_2, f10_3, f10_4⟩
theorem ef_rm11 (m : MethodId) (a : Addr) : entryFrame m #[(.ref a)] 1 = mkF m 0 #[lR a] [] := by first | (simp [entryFrame, mkF, argsToLocals, Value.category]; done) | rfl
def Qrm11 (Z : State) (a : Addr) (z : Int32) (h0 : Heap) (n0 : Nat) (v : Option Value) (h : Heap) (L : List Loc) : Prop := v = some (.int z) ∧ Fr n0 L ∧ h = h0
def Prm11 (s : State) (Z : State) (a : Addr) (z : Int32) (h0 : Heap) (n0 : Nat) : State → Outcome → Prop := fun U' o => ∃ v L, o = .returned v ∧ Qrm11 Z a z h0 n0 v U'.heap L ∧ FrameEnd s o U' L ({ frames := 0, cells := 0, slots := 0, locals := 0 } : Room).cells ({ frames := 0, cells := 0, slots := 0, locals := 0 } : Room).slots
set_option maxRecDepth 65536 in
set_option maxHeartbeats 40000000 in
theorem rm11 (l : Launch) (Z : State) (a0 : Array Value) (hw : ∀ d ∈ tables_1, d.before a0 Z = true) (ws : List Jvm.Cond) (a : Addr) (z : Int32) (h0 : Heap) (n0 : Nat) (Z0 : n0 ≤ h0.size) (Fz : Fld Z h0 a "java/util/ArrayList" "size" "I" (.int z)) :
    MetFree l (⟨"java/util/ArrayList", "size", "()I"⟩ : MethodName) (head1 (Jvm.Cond.code (⟨"java/util/ArrayList", "size", "()I"⟩ : MethodName) jdk_38_method_8_code 1 (some .int) :: ws) ({ frames := 0, cells := 0, slots := 0, locals := 0 } : Room)) (fun aa U => aa = #[(.ref a)] ∧ Z.Warmed39 U.vm ∧ U.heap = h0) (fun _ _ _ _ _ => True) (fun _ U o U' => ∃ v L, o = .returned v ∧ Qrm11 Z a z h0 n0 v U'.heap L ∧ FrameEnd U o U' L ({ frames := 0, cells := 0, slots := 0, locals := 0 } : Room).cells ({ frames := 0, cells := 0, slots := 0, locals := 0 } : Room).slots) := by
  refine MetFree.of_bodySF (plainFor_of_name pn_2) hisR ?_
  intro p e s m args below meth c s₁ Bd hml0 hP hK
  obtain ⟨rfl, hZ, hh⟩ := hP
  have hx := Bd.exec
  have hlk : meth.locks = false := by first | exact BodyLoose.notSynchronized Bd | exact Body.notSynchronized Bd
  have hby := Bd.bytes
  have hml : c.maxLocals = 1 := hml0
  have hown : s.vm.findClass "java/util/ArrayList" = some m.cls := findClass_of_methodNamed Bd.named
  have hnm := (name_of_methodNamed Bd.named Bd.method).1
  have X0 : Stand p l e ({ frames := 0, cells := 0, slots := 0, locals := 0 } : Room) s m #[(.ref a)] below meth c s₁ [] 0 0 := Stand.of_body Bd
  have e0 : s₁.heap = h0 := by rw [← hh, Bd.state]; rfl
  have N0 := Fr.nil n0
  show Done p e below (Prm11 s Z a z h0 n0) (s₁.setTop (entryFrame m #[(.ref a)] 1))
  refine Ds (B := s₁.setTop (mkF m 0 #[lR a] [])) (fun _ k => castTop (ef_rm11 m a) k) ?_
  refine Ds (B := s₁.setTop (mkF m 1 #[lR a] [(.ref a)])) (fun _ k => XS.aloadN X0.here hx rfl (hb hby d11_0) rfl rfl k) ?_
  obtain ⟨T1, X1, e1, st1⟩ := getF X0 hx hZ hown (host := "") (Or.inl (hw _ mm34)) Via.refl e0 Fz (g := (mkF m 1 #[lR a] [(.ref a)])) rfl rfl (hb hby d11_1)
  refine Ds (B := T1.setTop (mkF m 4 #[lR a] [(.int z)])) (fun _ k => st1 _ k) ?_
  obtain ⟨fs, hr, hrun, hended, hW, hsame⟩ := X1.leave (v := some (.int z)) (hlocks := hlk) (fun h => by rw [Bd.returns] at h; cases h)
  refine Done.fin (retI X1 hx Bd.returns (hb hby d11_4) hr) hrun hended ⟨_, _, rfl, ?_, ⟨_, rfl⟩, hW, hsame.mono (by decide) (by decide)⟩
  show Qrm11 Z a z h0 n0 _ T1.heap _
  rw [e1]
  exact ⟨rfl, N0, rfl⟩
theorem ef_rm14 (m : MethodId) (i : Int32) (z : Int32) : entryFrame m #[(.int i), (.int z), .null] 3 = mkF m 0 #[lI i, lI z, .val .null] [] := by first | (simp [entryFrame, mkF, argsToLocals, Value.category]; done) | rfl
def Qrm14 (Z : State) (i : Int32) (z : Int32) (h0 : Heap) (n0 : Nat) (v : Option Value) (h : Heap) (L : List Loc) : Prop := v = some (.int i) ∧ Fr n0 L ∧ h = h0
def Prm14 (s : State) (Z : State) (i : Int32) (z : Int32) (h0 : Heap) (n0 : Nat) : State → Outcome → Prop := fun U' o => ∃ v L, o = .returned v ∧ Qrm14 Z i z h0 n0 v U'.heap L ∧ FrameEnd s o U' L ({ frames := 0, cells := 0, slots := 0, locals := 0 } : Room).cells ({ frames := 0, cells := 0, slots := 0, locals := 0 } : Room).slots
set_option maxRecDepth 65536 in
set_option maxHeartbeats 40000000 in
theorem rm14 (l : Launch) (Z : State) (a0 : Array Value) (hw : ∀ d ∈ tables_1, d.before a0 Z = true) (ws : List Jvm.Cond) (i : Int32) (z : Int32) (h0 : Heap) (n0 : Nat) (Z0 : n0 ≤ h0.size) (hi : ¬ i < 0 ∧ i < z) :
    MetFree l (⟨"jdk/internal/util/Preconditions", "checkIndex", "(IILjava/util/function/BiFunction;)I"⟩ : MethodName) (head1 (Jvm.Cond.code (⟨"jdk/internal/util/Preconditions", "checkIndex", "(IILjava/util/function/BiFunction;)I"⟩ : MethodName) jdk_41_method_11_code 3 (some .int) :: ws) ({ frames := 0, cells := 0, slots := 0, locals := 0 } : Room)) (fun aa U => aa = #[(.int i), (.int z), .null] ∧ Z.Warmed39 U.vm ∧ U.heap = h0) (fun _ _ _ _ _ => True) (fun _ U o U' => ∃ v L, o = .returned v ∧ Qrm14 Z i z h0 n0 v U'.heap L ∧ FrameEnd U o U' L ({ frames := 0, cells := 0, slots := 0, locals := 0 } : Room).cells ({ frames := 0, cells := 0, slots := 0, locals := 0 } : Room).slots) := by
  refine MetFree.of_bodySF (plainFor_of_name pn_3) hisR ?_
  intro p e s m args below meth c s₁ Bd hml0 hP hK
  obtain ⟨rfl, hZ, hh⟩ := hP
  have hx := Bd.exec
  have hlk : meth.locks = false := by first | exact BodyLoose.notSynchronized Bd | exact Body.notSynchronized Bd
  have hby := Bd.bytes
  have hml : c.maxLocals = 3 := hml0
  have hown : s.vm.findClass "jdk/internal/util/Preconditions" = some m.cls := findClass_of_methodNamed Bd.named
  have hnm := (name_of_methodNamed Bd.named Bd.method).1
  have X0 : Stand p l e ({ frames := 0, cells := 0, slots := 0, locals := 0 } : Room) s m #[(.int i), (.int z), .null] below meth c s₁ [] 0 0 := Stand.of_body Bd
  have e0 : s₁.heap = h0 := by rw [← hh, Bd.state]; rfl
  have N0 := Fr.nil n0
  show Done p e below (Prm14 s Z i z h0 n0) (s₁.setTop (entryFrame m #[(.int i), (.int z), .null] 3))
  refine Ds (B := s₁.setTop (mkF m 0 #[lI i, lI z, .val .null] [])) (fun _ k => castTop (ef_rm14 m i z) k) ?_
  refine Ds (B := s₁.setTop (mkF m 4 #[lI i, lI z, .val .null] [])) (fun _ k => XS.iloadN X0.here hx rfl (hb hby d14_0) rfl (XS.ifNo X0.here hx rfl (hb hby d14_1) rfl ((if0 _ _).trans (flt (hi.1)).1) k)) ?_
  refine Ds (B := s₁.setTop (mkF m 17 #[lI i, lI z, .val .null] [(.int i)])) (fun _ k => XS.iloadN X0.here hx rfl (hb hby d14_4) rfl (XS.iloadN X0.here hx rfl (hb hby d14_5) rfl (XS.icmpYes X0.here hx rfl (pc0 := 6) (pc' := 16) rfl (hb hby d14_6) rfl (tlt (hi.2)).1 (by decide) (by decide) (XS.iloadN X0.here hx rfl (hb hby d14_16) rfl k)))) ?_
  obtain ⟨fs, hr, hrun, hended, hW, hsame⟩ := X0.leave (v := some (.int i)) (hlocks := hlk) (fun h => by rw [Bd.returns] at h; cases h)
  refine Done.fin (retI X0 hx Bd.returns (hb hby d14_17) hr) hrun hended ⟨_, _, rfl, ?_, ⟨_, rfl⟩, hW, hsame.mono (by decide) (by decide)⟩
  show Qrm14 Z i z h0 n0 _ s₁.heap _
  rw [e0]
  exact ⟨rfl, N0, rfl⟩
theorem ef_rm13 (m : MethodId) (i : Int32) (z : Int32) : entryFrame m #[(.int i), (.int z)] 2 = mkF m 0 #[lI i, lI z] [] := by first | (simp [entryFrame, mkF, argsToLocals, Value.category]; done) | rfl
def Qrm13 (Z : State) (i : Int32) (z : Int32) (h0 : Heap) (n0 : Nat) (v : Option Value) (h : Heap) (L : List Loc) : Prop := v = some (.int i) ∧ Fr n0 L ∧ h = h0
def Prm13 (s : State) (Z : State) (i : Int32) (z : Int32) (h0 : Heap) (n0 : Nat) : State → Outcome → Prop := fun U' o => ∃ v L, o = .returned v ∧ Qrm13 Z i z h0 n0 v U'.heap L ∧ FrameEnd s o U' L ({ frames := 1, cells := 0, slots := 0, locals := 14 } : Room).cells ({ frames := 1, cells := 0, slots := 0, locals := 14 } : Room).slots
set_option maxRecDepth 65536 in
set_option maxHeartbeats 40000000 in
theorem rm13 (l : Launch) (Z : State) (a0 : Array Value) (hw : ∀ d ∈ tables_1, d.before a0 Z = true) (ws : List Jvm.Cond) (i : Int32) (z : Int32) (h0 : Heap) (n0 : Nat) (Z0 : n0 ≤ h0.size) (hi : ¬ i < 0 ∧ i < z) :
    MetFree l (⟨"java/util/Objects", "checkIndex", "(II)I"⟩ : MethodName) (head1 (Jvm.Cond.code (⟨"java/util/Objects", "checkIndex", "(II)I"⟩ : MethodName) jdk_31_method_17_code 2 (some .int) :: ws) ({ frames := 1, cells := 0, slots := 0, locals := 14 } : Room)) (fun aa U => aa = #[(.int i), (.int z)] ∧ Z.Warmed39 U.vm ∧ U.heap = h0) (fun _ _ _ _ _ => True) (fun _ U o U' => ∃ v L, o = .returned v ∧ Qrm13 Z i z h0 n0 v U'.heap L ∧ FrameEnd U o U' L ({ frames := 1, cells := 0, slots := 0, locals := 14 } : Room).cells ({ frames := 1, cells := 0, slots := 0, locals := 14 } : Room).slots) := by
  refine MetFree.of_bodySF (plainFor_of_name pn_4) hisR ?_
  intro p e s m args below meth c s₁ Bd hml0 hP hK
  obtain ⟨rfl, hZ, hh⟩ := hP
  have hx := Bd.exec
  have hlk : meth.locks = false := by first | exact BodyLoose.notSynchronized Bd | exact Body.notSynchronized Bd
  have hby := Bd.bytes
  have hml : c.maxLocals = 2 := hml0
  have hown : s.vm.findClass "java/util/Objects" = some m.cls := findClass_of_methodNamed Bd.named
  have hnm := (name_of_methodNamed Bd.named Bd.method).1
  have X0 : Stand p l e ({ frames := 1, cells := 0, slots := 0, locals := 14 } : Room) s m #[(.int i), (.int z)] below meth c s₁ [] 0 0 := Stand.of_body Bd
  have e0 : s₁.heap = h0 := by rw [← hh, Bd.state]; rfl
  have N0 := Fr.nil n0
  show Done p e below (Prm13 s Z i z h0 n0) (s₁.setTop (entryFrame m #[(.int i), (.int z)] 2))
  refine Ds (B := s₁.setTop (mkF m 0 #[lI i, lI z] [])) (fun _ k => castTop (ef_rm13 m i z) k) ?_
  refine Ds (B := s₁.setTop (mkF m 3 #[lI i, lI z] [.null, (.int z), (.int i)])) (fun _ k => XS.iloadN X0.here hx rfl (hb hby d13_0) rfl (XS.iloadN X0.here hx rfl (hb hby d13_1) rfl (XS.aconstNull X0.here hx rfl (hb hby d13_2) k))) ?_
  obtain ⟨_, _, ⟨T1, L1, k1, n1⟩, -, X1, ⟨Lc1, hQ1, l1, y1, z1⟩, st1⟩ := Jvm.LawKit.callS X0 hx (y := (⟨"jdk/internal/util/Preconditions", "checkIndex", "(IILjava/util/function/BiFunction;)I"⟩ : MethodName)) hown (mvT hZ (hw _ mm93)) (mvT hZ (hw _ mm94)) (mvT hZ (hw _ mm95)) (mvT hZ (hw _ mm96)) (by decide) (backOf (W := 0) (rm14 l Z a0 hw [] i z h0 n0 Z0 hi) hZ (hw _ mm96) (hw _ mm95) (by decide) (by decide)) (g := (mkF m 3 #[lI i, lI z] [.null, (.int z), (.int i)])) rfl (by rw [hml]; rfl) (argsL := [(.int i), (.int z), .null]) (rest := []) (lenOf pd_5 rfl) rfl (by show 2 * 0 + _ ≤ _; exact Nat.le_of_eq rfl) (hb hby d13_3) (fun _ _ => ⟨rfl, e0, (by decide : 0 + 0 ≤ _), (by decide : 0 + 0 ≤ _)⟩)
  dsimp only [Pt.U, Pt.locs, Pt.cells, Pt.slots] at X1 l1 y1 z1 st1 hQ1
  rw [l1, y1, z1] at X1
  obtain ⟨hv1, N1q, e1⟩ := hQ1
  rw [hv1] at st1
  have N1 := Fr.app N0 N1q
  refine Ds (B := T1.setTop (mkF m 6 #[lI i, lI z] [(.int i)])) (fun _ k => st1 _ k) ?_
  obtain ⟨fs, hr, hrun, hended, hW, hsame⟩ := X1.leave (v := some (.int i)) (hlocks := hlk) (fun h => by rw [Bd.returns] at h; cases h)
  refine Done.fin (retI X1 hx Bd.returns (hb hby d13_6) hr) hrun hended ⟨_, _, rfl, ?_, ⟨_, rfl⟩, hW, hsame.mono (by decide) (by decide)⟩
  show Qrm13 Z i z h0 n0 _ T1.heap _
  rw [e1]
  exact ⟨rfl, N1, rfl⟩
theorem ef_rm15 (m : MethodId) (a : Addr) (i : Int32) : entryFrame m #[(.ref a), (.int i)] 2 = mkF m 0 #[lR a, lI i] [] := by first | (simp [entryFrame, mkF, argsToLocals, Value.category]; done) | rfl
def Qrm15 (Z : State) (a : Addr) (i : Int32) (t : Addr) (kt : ClassId) (vs : List Value) (x : Addr) (h0 : Heap) (n0 : Nat) (v : Option Value) (h : Heap) (L : List Loc) : Prop := v = some (.ref x) ∧ Fr n0 L ∧ h = h0
def Prm15 (s : State) (Z : State) (a : Addr) (i : Int32) (t : Addr) (kt : ClassId) (vs : List Value) (x : Addr) (h0 : Heap) (n0 : Nat) : State → Outcome → Prop := fun U' o => ∃ v L, o = .returned v ∧ Qrm15 Z a i t kt vs x h0 n0 v U'.heap L ∧ FrameEnd s o U' L ({ frames := 0, cells := 0, slots := 0, locals := 0 } : Room).cells ({ frames := 0, cells := 0, slots := 0, locals := 0 } : Room).slots
set_option maxRecDepth 65536 in
set_option maxHeartbeats 40000000 in
theorem rm15 (l : Launch) (Z : State) (a0 : Array Value) (hw : ∀ d ∈ tables_1, d.before a0 Z = true) (ws : List Jvm.Cond) (a : Addr) (i : Int32) (t : Addr) (kt : ClassId) (vs : List Value) (x : Addr) (h0 : Heap) (n0 : Nat) (Z0 : n0 ≤ h0.size) (Fe : Fld Z h0 a "java/util/ArrayList" "elementData" "[Ljava/lang/Object;" (.ref t)) (Vt : Arv Z h0 t kt (.object "java/lang/Object") (10 : Int32) vs .null) (hj : ¬ i < 0 ∧ i < (10 : Int32)) (hv : vs.getD i.toNatClampNeg .null = .ref x) :
    MetFree l (⟨"java/util/ArrayList", "elementData", "(I)Ljava/lang/Object;"⟩ : MethodName) (head1 (Jvm.Cond.code (⟨"java/util/ArrayList", "elementData", "(I)Ljava/lang/Object;"⟩ : MethodName) jdk_38_method_18_code 2 (some (.object "java/lang/Object")) :: ws) ({ frames := 0, cells := 0, slots := 0, locals := 0 } : Room)) (fun aa U => aa = #[(.ref a), (.int i)] ∧ Z.Warmed39 U.vm ∧ U.heap = h0) (fun _ _ _ _ _ => True) (fun _ U o U' => ∃ v L, o = .returned v ∧ Qrm15 Z a i t kt vs x h0 n0 v U'.heap L ∧ FrameEnd U o U' L ({ frames := 0, cells := 0, slots := 0, locals := 0 } : Room).cells ({ frames := 0, cells := 0, slots := 0, locals := 0 } : Room).slots) := by
  refine MetFree.of_bodySF (plainFor_of_name pn_2) hisR ?_
  intro p e s m args below meth c s₁ Bd hml0 hP hK
  obtain ⟨rfl, hZ, hh⟩ := hP
  have hx := Bd.exec
  have hlk : meth.locks = false := by first | exact BodyLoose.notSynchronized Bd | exact Body.notSynchronized Bd
  have hby := Bd.bytes
  have hml : c.maxLocals = 2 := hml0
  have hown : s.vm.findClass "java/util/ArrayList" = some m.cls := findClass_of_methodNamed Bd.named
  have hnm := (name_of_methodNamed Bd.named Bd.method).1
  have X0 : Stand p l e ({ frames := 0, cells := 0, slots := 0, locals := 0 } : Room) s m #[(.ref a), (.int i)] below meth c s₁ [] 0 0 := Stand.of_body Bd
  have e0 : s₁.heap = h0 := by rw [← hh, Bd.state]; rfl
  have N0 := Fr.nil n0
  show Done p e below (Prm15 s Z a i t kt vs x h0 n0) (s₁.setTop (entryFrame m #[(.ref a), (.int i)] 2))
  refine Ds (B := s₁.setTop (mkF m 0 #[lR a, lI i] [])) (fun _ k => castTop (ef_rm15 m a i) k) ?_
  refine Ds (B := s₁.setTop (mkF m 1 #[lR a, lI i] [(.ref a)])) (fun _ k => XS.aloadN X0.here hx rfl (hb hby d15_0) rfl rfl k) ?_
  obtain ⟨T1, X1, e1, st1⟩ := getF X0 hx hZ hown (host := "") (Or.inl (hw _ mm24)) Via.refl e0 Fe (g := (mkF m 1 #[lR a, lI i] [(.ref a)])) rfl rfl (hb hby d15_1)
  refine Ds (B := T1.setTop (mkF m 4 #[lR a, lI i] [(.ref t)])) (fun _ k => st1 _ k) ?_
  refine Ds (B := T1.setTop (mkF m 5 #[lR a, lI i] [(.int i), (.ref t)])) (fun _ k => XS.iloadN X1.here hx rfl (hb hby d15_4) rfl k) ?_
  obtain ⟨cl2, Ar2, q2, S2, M2, H2, G2⟩ := id Vt
  have hin2 : ¬ (i < 0 ∨ cl2.slots.size ≤ (i).toNatClampNeg) := inb_of S2 hj
  have hat2 : cl2.slots[(i).toNatClampNeg]? = some (.ref x) := Has.at H2 hin2 hv
  refine Ds (B := T1.setTop (mkF m 6 #[lR a, lI i] [(.ref x)])) (fun _ k => X1.aaload hx (j := i) (v := (.ref x)) (by rw [e1]; exact Ar2.1) (State.isArrayOf_alike hZ.alike Ar2.2.1) rfl Ar2.2.2 hin2 hat2 (g := (mkF m 5 #[lR a, lI i] [(.int i), (.ref t)])) rfl rfl (hb hby d15_5) _ k) ?_
  obtain ⟨fs, hr, hrun, hended, hW, hsame⟩ := X1.leave (v := some (.ref x)) (hlocks := hlk) (fun h => by rw [Bd.returns] at h; cases h)
  refine Done.fin (retR X1 hx Bd.returns rfl rfl (hb hby d15_6) hr) hrun hended ⟨_, _, rfl, ?_, ⟨_, rfl⟩, hW, hsame.mono (by decide) (by decide)⟩
  show Qrm15 Z a i t kt vs x h0 n0 _ T1.heap _
  rw [e1]
  exact ⟨rfl, N0, rfl⟩
theorem ef_rm12 (m : MethodId) (a : Addr) (i : Int32) : entryFrame m #[(.ref a), (.int i)] 2 = mkF m 0 #[lR a, lI i] [] := by first | (simp [entryFrame, mkF, argsToLocals, Value.category]; done) | rfl
def Qrm12 (Z : State) (a : Addr) (i : Int32) (t : Addr) (kt : ClassId) (vs : List Value) (x : Addr) (z : Int32) (h0 : Heap) (n0 : Nat) (v : Option Value) (h : Heap) (L : List Loc) : Prop := v = some (.ref x) ∧ Fr n0 L ∧ h = h0
def Prm12 (s : State) (Z : State) (a : Addr) (i : Int32) (t : Addr) (kt : ClassId) (vs : List Value) (x : Addr) (z : Int32) (h0 : Heap) (n0 : Nat) : State → Outcome → Prop := fun U' o => ∃ v L, o = .returned v ∧ Qrm12 Z a i t kt vs x z h0 n0 v U'.heap L ∧ FrameEnd s o U' L ({ frames := 2, cells := 0, slots := 0, locals := 27 } : Room).cells ({ frames := 2, cells := 0, slots := 0, locals := 27 } : Room).slots
set_option maxRecDepth 65536 in
set_option maxHeartbeats 40000000 in
theorem rm12 (l : Launch) (Z : State) (a0 : Array Value) (hw : ∀ d ∈ tables_1, d.before a0 Z = true) (ws : List Jvm.Cond) (a : Addr) (i : Int32) (t : Addr) (kt : ClassId) (vs : List Value) (x : Addr) (z : Int32) (h0 : Heap) (n0 : Nat) (Z0 : n0 ≤ h0.size) (Fe : Fld Z h0 a "java/util/ArrayList" "elementData" "[Ljava/lang/Object;" (.ref t)) (Vt : Arv Z h0 t kt (.object "java/lang/Object") (10 : Int32) vs .null) (hj : ¬ i < 0 ∧ i < (10 : Int32)) (hv : vs.getD i.toNatClampNeg .null = .ref x) (Fz : Fld Z h0 a "java/util/ArrayList" "size" "I" (.int z)) (Ea : Exa Z h0 a "java/util/ArrayList") (hi : ¬ i < 0 ∧ i < z) :
    MetFree l (⟨"java/util/ArrayList", "get", "(I)Ljava/lang/Object;"⟩ : MethodName) (head1 (Jvm.Cond.code (⟨"java/util/ArrayList", "get", "(I)Ljava/lang/Object;"⟩ : MethodName) jdk_38_method_20_code 2 (some (.object "java/lang/Object")) :: ws) ({ frames := 2, cells := 0, slots := 0, locals := 27 } : Room)) (fun aa U => aa = #[(.ref a), (.int i)] ∧ Z.Warmed39 U.vm ∧ U.heap = h0) (fun _ _ _ _ _ => True) (fun _ U o U' => ∃ v L, o = .returned v ∧ Qrm12 Z a i t kt vs x z h0 n0 v U'.heap L ∧ FrameEnd U o U' L ({ frames := 2, cells := 0, slots := 0, locals := 27 } : Room).cells ({ frames := 2, cells := 0, slots := 0, locals := 27 } : Room).slots) := by
  refine MetFree.of_bodySF (plainFor_of_name pn_2) hisR ?_
  intro p e s m args below meth c s₁ Bd hml0 hP hK
  obtain ⟨rfl, hZ, hh⟩ := hP
  have hx := Bd.exec
  have hlk : meth.locks = false := by first | exact BodyLoose.notSynchronized Bd | exact Body.notSynchronized Bd
  have hby := Bd.bytes
  have hml : c.maxLocals = 2 := hml0
  have hown : s.vm.findClass "java/util/ArrayList" = some m.cls := findClass_of_methodNamed Bd.named
  have hnm := (name_of_methodNamed Bd.named Bd.method).1
  have X0 : Stand p l e ({ frames := 2, cells := 0, slots := 0, locals := 27 } : Room) s m #[(.ref a), (.int i)] below meth c s₁ [] 0 0 := Stand.of_body Bd
  have e0 : s₁.heap = h0 := by rw [← hh, Bd.state]; rfl
  have N0 := Fr.nil n0
  show Done p e below (Prm12 s Z a i t kt vs x z h0 n0) (s₁.setTop (entryFrame m #[(.ref a), (.int i)] 2))
  refine Ds (B := s₁.setTop (mkF m 0 #[lR a, lI i] [])) (fun _ k => castTop (ef_rm12 m a i) k) ?_
  refine Ds (B := s₁.setTop (mkF m 2 #[lR a, lI i] [(.ref a), (.int i)])) (fun _ k => XS.iloadN X0.here hx rfl (hb hby d12_0) rfl (XS.aloadN X0.here hx rfl (hb hby d12_1) rfl rfl k)) ?_
  obtain ⟨T1, X1, e1, st1⟩ := getF X0 hx hZ hown (host := "") (Or.inl (hw _ mm34)) Via.refl e0 Fz (g := (mkF m 2 #[lR a, lI i] [(.ref a), (.int i)])) rfl rfl (hb hby d12_2)
  refine Ds (B := T1.setTop (mkF m 5 #[lR a, lI i] [(.int z), (.int i)])) (fun _ k => st1 _ k) ?_
  obtain ⟨_, _, ⟨T2, L2, k2, n2⟩, -, X2, ⟨Lc2, hQ2, l2, y2, z2⟩, st2⟩ := Jvm.LawKit.callS X1 hx (y := (⟨"java/util/Objects", "checkIndex", "(II)I"⟩ : MethodName)) hown (mvT hZ (hw _ mm89)) (mvT hZ (hw _ mm90)) (mvT hZ (hw _ mm91)) (mvT hZ (hw _ mm92)) (by decide) (backOf (W := 0) (rm13 l Z a0 hw [] i z h0 n0 Z0 hi) hZ (hw _ mm92) (hw _ mm91) (by decide) (by decide)) (g := (mkF m 5 #[lR a, lI i] [(.int z), (.int i)])) rfl (by rw [hml]; rfl) (argsL := [(.int i), (.int z)]) (rest := []) (lenOf pd_1 rfl) rfl (by show 2 * 0 + _ ≤ _; exact Nat.le_of_eq rfl) (hb hby d12_5) (fun _ _ => ⟨rfl, e1, (by decide : 0 + 0 ≤ _), (by decide : 0 + 0 ≤ _)⟩)
  dsimp only [Pt.U, Pt.locs, Pt.cells, Pt.slots] at X2 l2 y2 z2 st2 hQ2
  rw [l2, y2, z2] at X2
  obtain ⟨hv2, N2q, e2⟩ := hQ2
  rw [hv2] at st2
  have N2 := Fr.app N0 N2q
  refine Ds (B := T2.setTop (mkF m 8 #[lR a, lI i] [(.int i)])) (fun _ k => st2 _ k) ?_
  refine Ds (B := T2.setTop (mkF m 11 #[lR a, lI i] [(.int i), (.ref a)])) (fun _ k => XS.pop X2.here hx rfl (hb hby d12_8) rfl rfl (XS.aloadN X2.here hx rfl (hb hby d12_9) rfl rfl (XS.iloadN X2.here hx rfl (hb hby d12_10) rfl k))) ?_
  obtain ⟨cq3, kq3, q3a, q3b, q3c⟩ := isOf hZ e2 Ea
  obtain ⟨_, _, ⟨T3, L3, k3, n3⟩, -, X3, ⟨Lc3, hQ3, l3, y3, z3⟩, st3⟩ := X2.virtualBack hx (y := (⟨"java/util/ArrayList", "elementData", "(I)Ljava/lang/Object;"⟩ : MethodName)) (z := (⟨"java/util/ArrayList", "elementData", "(I)Ljava/lang/Object;"⟩ : MethodName)) hown (mvT hZ (hw _ mm97)) (mvT hZ (hw _ mm98)) (notFace_of_selects (args := #[]) (mvT hZ (hw _ mm100))) (mvT hZ (hw _ mm100)) (mvT hZ (hw _ mm99)) (by decide) (backOf (W := 0) (rm15 l Z a0 hw [] a i t kt vs x h0 n0 Z0 Fe Vt hj hv) hZ (hw _ mm101) (hw _ mm2) (by decide) (by decide)) q3a q3c (g := (mkF m 11 #[lR a, lI i] [(.int i), (.ref a)])) rfl (by rw [hml]; rfl) (Steps.refl _) (argsL := [(.int i)]) (rest := []) (lenOf pd_6 rfl) rfl (by show 2 * 0 + _ ≤ _; exact Nat.le_of_eq rfl) (hb hby d12_11) (fun _ _ => ⟨rfl, e2, (by decide : 0 + 0 ≤ _), (by decide : 0 + 0 ≤ _)⟩)
  dsimp only [Pt.U, Pt.locs, Pt.cells, Pt.slots] at X3 l3 y3 z3 st3 hQ3
  rw [l3, y3, z3] at X3
  obtain ⟨hv3, N3q, e3⟩ := hQ3
  rw [hv3] at st3
  have N3 := Fr.app N2 N3q
  refine Ds (B := T3.setTop (mkF m 14 #[lR a, lI i] [(.ref x)])) (fun _ k => st3.trans k) ?_
  obtain ⟨fs, hr, hrun, hended, hW, hsame⟩ := X3.leave (v := some (.ref x)) (hlocks := hlk) (fun h => by rw [Bd.returns] at h; cases h)
  refine Done.fin (retR X3 hx Bd.returns rfl rfl (hb hby d12_14) hr) hrun hended ⟨_, _, rfl, ?_, ⟨_, rfl⟩, hW, hsame.mono (by decide) (by decide)⟩
  show Qrm12 Z a i t kt vs x z h0 n0 _ T3.heap _
  rw [e3]
  exact ⟨rfl, N3, rfl⟩
theorem ef_rm10 (m : MethodId) (a : Addr) (li : Addr) : entryFrame m #[(.ref a), (.ref li)] 3 = mkF m 0 #[lR a, lR li, lU] [] := by first | (simp [entryFrame, mkF, argsToLocals, Value.category]; done) | rfl
def Qrm10 (Z : State) (a : Addr) (li : Addr) (mc : Int32) (t : Addr) (kt : ClassId) (el0 : Addr) (el1 : Addr) (el2 : Addr) (kel0 : ClassId) (kel1 : ClassId) (kel2 : ClassId) (va : Int32) (vb : Int32) (vc : Int32) (vd : Int32) (h0 : Heap) (n0 : Nat) (v : Option Value) (h : Heap) (L : List Loc) : Prop := ∃ (u : Addr) (ku : ClassId) (cc0 : Addr) (cc1 : Addr) (cc2 : Addr), v = none ∧ Fr n0 L ∧ Keep h0 h [a] ∧ h0.size ≤ u ∧ h0.size ≤ cc0 ∧ h0.size ≤ cc1 ∧ h0.size ≤ cc2 ∧ Exa Z h a "com/example/percurso/percurso/suite/Suite" ∧ Fld Z h a "com/example/percurso/percurso/suite/Suite" "tests" "[[I" (.ref u) ∧ Arv Z h u ku (.array .int) (3 : Int32) [(.ref cc0), (.ref cc1), (.ref cc2)] .null ∧ Arv Z h cc0 kel0 .int 2 [(.int va), (.int vd)] (.int 0) ∧ Arv Z h cc1 kel1 .int 1 [(.int vb)] (.int 0) ∧ Arv Z h cc2 kel2 .int 1 [(.int vc)] (.int 0)
def Prm10 (s : State) (Z : State) (a : Addr) (li : Addr) (mc : Int32) (t : Addr) (kt : ClassId) (el0 : Addr) (el1 : Addr) (el2 : Addr) (kel0 : ClassId) (kel1 : ClassId) (kel2 : ClassId) (va : Int32) (vb : Int32) (vc : Int32) (vd : Int32) (h0 : Heap) (n0 : Nat) : State → Outcome → Prop := fun U' o => ∃ v L, o = .returned v ∧ Qrm10 Z a li mc t kt el0 el1 el2 kel0 kel1 kel2 va vb vc vd h0 n0 v U'.heap L ∧ FrameEnd s o U' L ({ frames := 3, cells := 4, slots := 7, locals := 42 } : Room).cells ({ frames := 3, cells := 4, slots := 7, locals := 42 } : Room).slots
set_option maxRecDepth 65536 in
set_option maxHeartbeats 40000000 in
theorem rm10 (l : Launch) (Z : State) (a0 : Array Value) (hw : ∀ d ∈ tables_1, d.before a0 Z = true) (ws : List Jvm.Cond) (a : Addr) (li : Addr) (mc : Int32) (t : Addr) (kt : ClassId) (el0 : Addr) (el1 : Addr) (el2 : Addr) (kel0 : ClassId) (kel1 : ClassId) (kel2 : ClassId) (va : Int32) (vb : Int32) (vc : Int32) (vd : Int32) (h0 : Heap) (n0 : Nat) (Z0 : n0 ≤ h0.size) (Fa : Fld Z h0 a "com/example/percurso/percurso/suite/Suite" "tests" "[[I" .null) (Es : Exa Z h0 a "com/example/percurso/percurso/suite/Suite") (gs : n0 ≤ a) (El : Exa Z h0 li "java/util/ArrayList") (Fm : Fld Z h0 li "java/util/AbstractList" "modCount" "I" (.int mc)) (Fe : Fld Z h0 li "java/util/ArrayList" "elementData" "[Ljava/lang/Object;" (.ref t)) (Fs : Fld Z h0 li "java/util/ArrayList" "size" "I" (.int 3)) (V_t : Arv Z h0 t kt (.object "java/lang/Object") (10 : Int32) [(.ref el0), (.ref el1), (.ref el2), .null, .null, .null, .null, .null, .null, .null] .null) (X_el0 : Exa Z h0 el0 "[I") (V_el0 : Arv Z h0 el0 kel0 .int 2 [(.int va), (.int vd)] (.int 0)) (X_el1 : Exa Z h0 el1 "[I") (V_el1 : Arv Z h0 el1 kel1 .int 1 [(.int vb)] (.int 0)) (X_el2 : Exa Z h0 el2 "[I") (V_el2 : Arv Z h0 el2 kel2 .int 1 [(.int vc)] (.int 0)) (nal : a ≠ li) (nat : a ≠ t) (na_el0 : a ≠ el0) (na_el1 : a ≠ el1) (na_el2 : a ≠ el2) :
    MetFree l (⟨"com/example/percurso/percurso/suite/Suite", "<init>", "(Ljava/util/List;)V"⟩ : MethodName) (head1 (Jvm.Cond.code (⟨"com/example/percurso/percurso/suite/Suite", "<init>", "(Ljava/util/List;)V"⟩ : MethodName) prog_193_method_1_code 3 none :: ws) ({ frames := 3, cells := 4, slots := 7, locals := 42 } : Room)) (fun aa U => aa = #[(.ref a), (.ref li)] ∧ Z.Warmed39 U.vm ∧ U.heap = h0) (fun _ _ _ _ _ => True) (fun _ U o U' => ∃ v L, o = .returned v ∧ Qrm10 Z a li mc t kt el0 el1 el2 kel0 kel1 kel2 va vb vc vd h0 n0 v U'.heap L ∧ FrameEnd U o U' L ({ frames := 3, cells := 4, slots := 7, locals := 42 } : Room).cells ({ frames := 3, cells := 4, slots := 7, locals := 42 } : Room).slots) := by
  refine MetFree.of_bodySF (plainFor_of_name pn_5) hisR ?_
  intro p e s m args below meth c s₁ Bd hml0 hP hK
  obtain ⟨rfl, hZ, hh⟩ := hP
  have hx := Bd.exec
  have hlk : meth.locks = false := by first | exact BodyLoose.notSynchronized Bd | exact Body.notSynchronized Bd
  have hby := Bd.bytes
  have hml : c.maxLocals = 3 := hml0
  have hown : s.vm.findClass "com/example/percurso/percurso/suite/Suite" = some m.cls := findClass_of_methodNamed Bd.named
  have hnm := (name_of_methodNamed Bd.named Bd.method).1
  have X0 : Stand p l e ({ frames := 3, cells := 4, slots := 7, locals := 42 } : Room) s m #[(.ref a), (.ref li)] below meth c s₁ [] 0 0 := Stand.of_body Bd
  have e0 : s₁.heap = h0 := by rw [← hh, Bd.state]; rfl
  have N0 := Fr.nil n0
  show Done p e below (Prm10 s Z a li mc t kt el0 el1 el2 kel0 kel1 kel2 va vb vc vd h0 n0) (s₁.setTop (entryFrame m #[(.ref a), (.ref li)] 3))
  refine Ds (B := s₁.setTop (mkF m 0 #[lR a, lR li, lU] [])) (fun _ k => castTop (ef_rm10 m a li) k) ?_
  refine Ds (B := s₁.setTop (mkF m 1 #[lR a, lR li, lU] [(.ref a)])) (fun _ k => XS.aloadN X0.here hx rfl (hb hby d10_0) rfl rfl k) ?_
  obtain ⟨T1, X1, e1, st1⟩ := initO X0 hx hZ hown (hw _ mm67) (hw _ mm19) (hw _ mm20) e0 (g := (mkF m 1 #[lR a, lR li, lU] [(.ref a)])) rfl (by rw [hml]; rfl) rfl (hb hby d10_1) (by decide) (W := 0) (by show 2 * 0 + _ ≤ _; exact Nat.le_of_eq rfl) (by decide)
  refine Ds (B := T1.setTop (mkF m 4 #[lR a, lR li, lU] [])) (fun _ k => st1 _ k) ?_
  refine Ds (B := T1.setTop (mkF m 6 #[lR a, lR li, lU] [(.ref li), (.ref a)])) (fun _ k => XS.aloadN X1.here hx rfl (hb hby d10_4) rfl rfl (XS.aloadN X1.here hx rfl (hb hby d10_5) rfl rfl k)) ?_
  obtain ⟨cq2, kq2, q2a, q2b, q2c⟩ := isOf hZ e1 El
  obtain ⟨_, _, ⟨T2, L2, k2, n2⟩, -, X2, ⟨Lc2, hQ2, l2, y2, z2⟩, st2⟩ := X1.interfaceBack hx (xi := (⟨"java/util/List", "size", "()I"⟩ : MethodName)) (y := (⟨"java/util/ArrayList", "size", "()I"⟩ : MethodName)) hown (mvT hZ (hw _ mm68)) (mvT hZ (hw _ mm69)) (mvT hZ (hw _ mm70)) (mvT hZ (hw _ mm71)) (mvT hZ (hw _ mm72)) (mvT hZ (hw _ mm73)) (mvT hZ (hw _ mm74)) (mvT hZ (hw _ mm75)) (by decide) (backOf (W := 1) (rm11 l Z a0 hw [] li (3 : Int32) h0 n0 Z0 Fs) hZ (hw _ mm76) (hw _ mm2) (by decide) (by decide)) q2a q2b q2c (g := (mkF m 6 #[lR a, lR li, lU] [(.ref li), (.ref a)])) rfl (by rw [hml]; rfl) (Steps.refl _) (argsL := []) (rest := [(.ref a)]) (lenOf pd_7 rfl) rfl (by show 2 * 0 + _ ≤ _; exact Nat.le_of_eq rfl) (hb hby d10_6) (fun _ _ => ⟨rfl, e1, (by decide : 0 + 0 ≤ _), (by decide : 0 + 0 ≤ _)⟩)
  dsimp only [Pt.U, Pt.locs, Pt.cells, Pt.slots] at X2 l2 y2 z2 st2 hQ2
  rw [l2, y2, z2] at X2
  obtain ⟨hv2, N2q, e2⟩ := hQ2
  rw [hv2] at st2
  have N2 := Fr.app N0 N2q
  refine Ds (B := T2.setTop (mkF m 11 #[lR a, lR li, lU] [(.int 3), (.ref a)])) (fun _ k => st2.trans k) ?_
  obtain ⟨T3, h3, k3, X3, e3, E3, A3, Ex3, O3, st3⟩ := newRA X2 hx hZ hown (ty := .int) (C := "[I") rfl (hw _ mm77) (hw _ mm78) e2 (g := (mkF m 11 #[lR a, lR li, lU] [(.int 3), (.ref a)])) rfl (hb hby d10_11) rfl (by decide) (cap := 3) (by decide) (by decide) (by decide) (by decide) (ad := "[[I") rfl
  obtain ⟨b3, g3⟩ : ∃ z, z = h0.size := ⟨_, rfl⟩
  rw [← g3] at A3 Ex3 st3
  have ne_li_b3 : li ≠ b3 := Nat.ne_of_lt (Nat.lt_of_lt_of_le El.lt (Nat.le_of_eq g3.symm))
  have ne_a_b3 : a ≠ b3 := Nat.ne_of_lt (Nat.lt_of_lt_of_le Fa.lt (Nat.le_of_eq g3.symm))
  have ne_t_b3 : t ≠ b3 := Nat.ne_of_lt (Nat.lt_of_lt_of_le V_t.lt (Nat.le_of_eq g3.symm))
  have ne_el0_b3 : el0 ≠ b3 := Nat.ne_of_lt (Nat.lt_of_lt_of_le V_el0.lt (Nat.le_of_eq g3.symm))
  have ne_el1_b3 : el1 ≠ b3 := Nat.ne_of_lt (Nat.lt_of_lt_of_le V_el1.lt (Nat.le_of_eq g3.symm))
  have ne_el2_b3 : el2 ≠ b3 := Nat.ne_of_lt (Nat.lt_of_lt_of_le V_el2.lt (Nat.le_of_eq g3.symm))
  have ge_b3 : n0 ≤ b3 := Nat.le_trans Z0 (Nat.le_of_eq g3.symm)
  have sz_b3 : h0.size ≤ b3 := Nat.le_trans ((Keep.refl h0 [a])).1 (Nat.le_of_eq g3.symm)
  have Z3 : n0 ≤ h3.size := Nat.le_trans Z0 E3.1
  have V3 : Arv Z h3 b3 k3 (.array .int) (3 : Int32) [.null, .null, .null] .null := (Arv.new A3 (by decide)).pad (pad_rep [] .null 3)
  have KK3 : Keep h0 h3 [a] := ((Keep.refl h0 [a])).ext E3
  refine Ds (B := T3.setTop (mkF m 14 #[lR a, lR li, lU] [(.ref b3), (.ref a)])) (fun _ k => st3 _ k) ?_
  have c4 := (Exa.ext E3 Es)
  have c5 := (Fld.ext E3 Fa)
  obtain ⟨T6, h6, X6, e6, W6, st6⟩ := putF X3 hx hZ hown (host := "") (Or.inl (hw _ mm79)) Via.refl e3 c5 c4 (Or.inr ⟨(hw _ mm80), rfl, hnm⟩) (hw _ mm62) (ty := (.array (.array .int))) (by decide) rfl rfl (g := (mkF m 14 #[lR a, lR li, lU] [(.ref b3), (.ref a)])) rfl rfl (hb hby d10_14)
  have F6 := Fld.same W6 c5
  have N6 := Fr.snoc X6 N2 gs
  have Z6 : n0 ≤ h6.size := Nat.le_trans Z3 (Keep.of_wr W6).1
  have KK6 : Keep h0 h6 [a] := (KK3).wr W6 (Or.inl (List.mem_of_getElem? (i := 0) rfl))
  refine Ds (B := T6.setTop (mkF m 17 #[lR a, lR li, lU] [])) (fun _ k => st6 _ k) ?_
  refine Ds (B := T6.setTop (mkF m 21 #[lR a, lR li, lI 0] [(.ref a), (.int 0)])) (fun _ k => XS.iconst X6.here hx rfl (hb hby d10_17) (XS.istoreN X6.here hx rfl (hb hby d10_18) rfl (l' := #[lR a, lR li, lI 0]) rfl (XS.iloadN X6.here hx rfl (hb hby d10_19) rfl (XS.aloadN X6.here hx rfl (hb hby d10_20) rfl rfl k)))) ?_
  obtain ⟨T7, X7, e7, st7⟩ := getF X6 hx hZ hown (host := "") (Or.inl (hw _ mm79)) Via.refl e6 F6 (g := (mkF m 21 #[lR a, lR li, lI 0] [(.ref a), (.int 0)])) rfl rfl (hb hby d10_21)
  refine Ds (B := T7.setTop (mkF m 24 #[lR a, lR li, lI 0] [(.ref b3), (.int 0)])) (fun _ k => st7 _ k) ?_
  have c9 := (V3.other W6 (Ne.symm ne_a_b3))
  obtain ⟨cl8, Ar8, q8, S8, M8, -⟩ := id c9
  refine Ds (B := T7.setTop (mkF m 25 #[lR a, lR li, lI 0] [(.int 3), (.int 0)])) (fun _ k => X7.arraylength hx (by rw [e7]; exact Ar8.1) (State.isArrayOf_alike hZ.alike Ar8.2.1) (g := (mkF m 24 #[lR a, lR li, lI 0] [(.ref b3), (.int 0)])) rfl rfl (hb hby d10_24) _ (by rw [len_of S8 M8]; exact k)) ?_
  refine Ds (B := T7.setTop (mkF m 29 #[lR a, lR li, lI 0] [(.ref a)])) (fun _ k => XS.icmpNo X7.here hx rfl (hb hby d10_25) rfl (tlt (by decide : (0 : Int32) < (3 : Int32))).2.1 (XS.aloadN X7.here hx rfl (hb hby d10_28) rfl rfl k)) ?_
  obtain ⟨T10, X10, e10, st10⟩ := getF X7 hx hZ hown (host := "") (Or.inl (hw _ mm79)) Via.refl e7 F6 (g := (mkF m 29 #[lR a, lR li, lI 0] [(.ref a)])) rfl rfl (hb hby d10_29)
  refine Ds (B := T10.setTop (mkF m 32 #[lR a, lR li, lI 0] [(.ref b3)])) (fun _ k => st10 _ k) ?_
  refine Ds (B := T10.setTop (mkF m 35 #[lR a, lR li, lI 0] [(.int 0), (.ref li), (.int 0), (.ref b3)])) (fun _ k => XS.iloadN X10.here hx rfl (hb hby d10_32) rfl (XS.aloadN X10.here hx rfl (hb hby d10_33) rfl rfl (XS.iloadN X10.here hx rfl (hb hby d10_34) rfl k))) ?_
  have c11 := (Fld.other W6 (Fld.ext E3 Fe) (Or.inl (Ne.symm nal)))
  have c12 := ((V_t.ext E3).other W6 (Ne.symm nat))
  have c13 := (Fld.other W6 (Fld.ext E3 Fs) (Or.inl (Ne.symm nal)))
  have c14 := (Exa.wr W6 (Exa.ext E3 El))
  obtain ⟨cq15, kq15, q15a, q15b, q15c⟩ := isOf hZ e10 c14
  obtain ⟨_, _, ⟨T15, L15, k15, n15⟩, -, X15, ⟨Lc15, hQ15, l15, y15, z15⟩, st15⟩ := X10.interfaceBack hx (xi := (⟨"java/util/List", "get", "(I)Ljava/lang/Object;"⟩ : MethodName)) (y := (⟨"java/util/ArrayList", "get", "(I)Ljava/lang/Object;"⟩ : MethodName)) hown (mvT hZ (hw _ mm81)) (mvT hZ (hw _ mm82)) (mvT hZ (hw _ mm83)) (mvT hZ (hw _ mm84)) (mvT hZ (hw _ mm85)) (mvT hZ (hw _ mm86)) (mvT hZ (hw _ mm87)) (mvT hZ (hw _ mm75)) (by decide) (backOf (W := 2) (rm12 l Z a0 hw [] li (0 : Int32) t kt [(.ref el0), (.ref el1), (.ref el2), .null, .null, .null, .null, .null, .null, .null] el0 (3 : Int32) h6 n0 Z6 c11 c12 ⟨by decide, by decide⟩ rfl c13 c14 ⟨by decide, by decide⟩) hZ (hw _ mm88) (hw _ mm2) (by decide) (by decide)) q15a q15b q15c (g := (mkF m 35 #[lR a, lR li, lI 0] [(.int 0), (.ref li), (.int 0), (.ref b3)])) rfl (by rw [hml]; rfl) (Steps.refl _) (argsL := [(.int 0)]) (rest := [(.int 0), (.ref b3)]) (lenOf pd_6 rfl) rfl (by show 2 * 0 + _ ≤ _; exact Nat.le_of_eq rfl) (hb hby d10_35) (fun _ _ => ⟨rfl, e10, (by decide : 1 + 0 ≤ _), (by decide : 3 + 0 ≤ _)⟩)
  dsimp only [Pt.U, Pt.locs, Pt.cells, Pt.slots] at X15 l15 y15 z15 st15 hQ15
  rw [l15, y15, z15] at X15
  obtain ⟨hv15, N15q, e15⟩ := hQ15
  rw [hv15] at st15
  have N15 := Fr.app N6 N15q
  refine Ds (B := T15.setTop (mkF m 40 #[lR a, lR li, lI 0] [(.ref el0), (.int 0), (.ref b3)])) (fun _ k => st15.trans k) ?_
  have c17 := (Exa.wr W6 (Exa.ext E3 X_el0))
  obtain ⟨T16, X16, e16, st16⟩ := castY X15 hx hZ hown (hw _ mm77) e15 (Ins.self c17) (g := (mkF m 40 #[lR a, lR li, lI 0] [(.ref el0), (.int 0), (.ref b3)])) rfl rfl (hb hby d10_40)
  refine Ds (B := T16.setTop (mkF m 43 #[lR a, lR li, lI 0] [(.ref el0), (.int 0), (.ref b3)])) (fun _ k => st16 _ k) ?_
  have c19 := ((V_el0.ext E3).other W6 (Ne.symm na_el0))
  obtain ⟨T18, h18, X18, e18, E18, A18, Ex18, st18⟩ := cloneH X16 hx hZ hown (hw _ mm103) (hw _ mm104) (hw _ mm108) (hw _ mm106) (hw _ mm107) (hw _ mm109) e16 c19.arh c17 (g := (mkF m 43 #[lR a, lR li, lI 0] [(.ref el0), (.int 0), (.ref b3)])) rfl (by rw [hml]; rfl) rfl (hb hby d10_43) (by decide) (W := 2) (by show 2 * 0 + _ ≤ _; exact Nat.le_of_eq rfl) (by decide) (cap := 2) (by decide) (by decide) (by decide)
  have c20 := ((V_el1.ext E3).other W6 (Ne.symm na_el1))
  have c21 := ((V_el2.ext E3).other W6 (Ne.symm na_el2))
  obtain ⟨b18, g18⟩ : ∃ z, z = h6.size := ⟨_, rfl⟩
  rw [← g18] at A18 Ex18 st18
  have ne_li_b18 : li ≠ b18 := Nat.ne_of_lt (Nat.lt_of_lt_of_le c14.lt (Nat.le_of_eq g18.symm))
  have ne_a_b18 : a ≠ b18 := Nat.ne_of_lt (Nat.lt_of_lt_of_le F6.lt (Nat.le_of_eq g18.symm))
  have ne_t_b18 : t ≠ b18 := Nat.ne_of_lt (Nat.lt_of_lt_of_le c12.lt (Nat.le_of_eq g18.symm))
  have ne_el0_b18 : el0 ≠ b18 := Nat.ne_of_lt (Nat.lt_of_lt_of_le c19.lt (Nat.le_of_eq g18.symm))
  have ne_el1_b18 : el1 ≠ b18 := Nat.ne_of_lt (Nat.lt_of_lt_of_le c20.lt (Nat.le_of_eq g18.symm))
  have ne_el2_b18 : el2 ≠ b18 := Nat.ne_of_lt (Nat.lt_of_lt_of_le c21.lt (Nat.le_of_eq g18.symm))
  have ne_b3_b18 : b3 ≠ b18 := Nat.ne_of_lt (Nat.lt_of_lt_of_le c9.lt (Nat.le_of_eq g18.symm))
  have ge_b18 : n0 ≤ b18 := Nat.le_trans Z6 (Nat.le_of_eq g18.symm)
  have sz_b18 : h0.size ≤ b18 := Nat.le_trans (KK6).1 (Nat.le_of_eq g18.symm)
  have Z18 : n0 ≤ h18.size := Nat.le_trans Z6 E18.1
  have V18 : Arv Z h18 b18 kel0 .int 2 [(.int va), (.int vd)] (.int 0) := A18
  have KK18 : Keep h0 h18 [a] := (KK6).ext E18
  refine Ds (B := T18.setTop (mkF m 46 #[lR a, lR li, lI 0] [(.ref b18), (.int 0), (.ref b3)])) (fun _ k => st18 _ k) ?_
  obtain ⟨T22, X22, e22, st22⟩ := castY X18 hx hZ hown (hw _ mm77) e18 (Ins.self Ex18) (g := (mkF m 46 #[lR a, lR li, lI 0] [(.ref b18), (.int 0), (.ref b3)])) rfl rfl (hb hby d10_46)
  refine Ds (B := T22.setTop (mkF m 49 #[lR a, lR li, lI 0] [(.ref b18), (.int 0), (.ref b3)])) (fun _ k => st22 _ k) ?_
  have c24 := (c9.ext E18)
  obtain ⟨cl23, Ar23, q23, S23, M23, H23, G23⟩ := id c24
  have hin23 : ¬ ((0 : Int32) < 0 ∨ cl23.slots.size ≤ ((0 : Int32)).toNatClampNeg) := inb_of S23 ⟨by decide, by decide⟩
  obtain ⟨T23, h23, X23, e23, W23, st23⟩ := stR X22 hx hZ e22 Ar23 (j := (0 : Int32)) hin23 rfl (Sto.ofVA Ar23 q23 O3 (Ins.self Ex18)) (g := (mkF m 49 #[lR a, lR li, lI 0] [(.ref b18), (.int 0), (.ref b3)])) rfl rfl (hb hby d10_49)
  have V23 : Arv Z h23 b3 k3 (.array .int) (3 : Int32) [(.ref b18), .null, .null] .null := Arv.set Ar23 q23 S23 M23 H23 G23 rfl W23 0 rfl (Nat.le_of_ble_eq_true rfl)
  have N23 := Fr.snoc X23 N15 ge_b3
  have Z23 : n0 ≤ h23.size := Nat.le_trans Z18 (Keep.of_wr W23).1
  have KK23 : Keep h0 h23 [a] := (KK18).wr W23 (Or.inr sz_b3)
  refine Ds (B := T23.setTop (mkF m 50 #[lR a, lR li, lI 0] [])) (fun _ k => st23 _ k) ?_
  refine Ds (B := T23.setTop (mkF m 21 #[lR a, lR li, lI 1] [(.ref a), (.int 1)])) (fun _ k => XS.iinc X23.here hx rfl (hb hby d10_50) rfl (l' := #[lR a, lR li, lI 1]) rfl (XS.goto X23.here hx rfl (pc0 := 53) (pc' := 19) rfl (hb hby d10_53) (by decide) (by decide) (XS.iloadN X23.here hx rfl (hb hby d10_19) rfl (XS.aloadN X23.here hx rfl (hb hby d10_20) rfl rfl k)))) ?_
  have c26 := (Fld.other W23 (Fld.ext E18 F6) (Or.inl ne_a_b3))
  obtain ⟨T25, X25, e25, st25⟩ := getF X23 hx hZ hown (host := "") (Or.inl (hw _ mm79)) Via.refl e23 c26 (g := (mkF m 21 #[lR a, lR li, lI 1] [(.ref a), (.int 1)])) rfl rfl (hb hby d10_21)
  refine Ds (B := T25.setTop (mkF m 24 #[lR a, lR li, lI 1] [(.ref b3), (.int 1)])) (fun _ k => st25 _ k) ?_
  obtain ⟨cl27, Ar27, q27, S27, M27, -⟩ := id V23
  refine Ds (B := T25.setTop (mkF m 25 #[lR a, lR li, lI 1] [(.int 3), (.int 1)])) (fun _ k => X25.arraylength hx (by rw [e25]; exact Ar27.1) (State.isArrayOf_alike hZ.alike Ar27.2.1) (g := (mkF m 24 #[lR a, lR li, lI 1] [(.ref b3), (.int 1)])) rfl rfl (hb hby d10_24) _ (by rw [len_of S27 M27]; exact k)) ?_
  refine Ds (B := T25.setTop (mkF m 29 #[lR a, lR li, lI 1] [(.ref a)])) (fun _ k => XS.icmpNo X25.here hx rfl (hb hby d10_25) rfl (tlt (by decide : (1 : Int32) < (3 : Int32))).2.1 (XS.aloadN X25.here hx rfl (hb hby d10_28) rfl rfl k)) ?_
  obtain ⟨T28, X28, e28, st28⟩ := getF X25 hx hZ hown (host := "") (Or.inl (hw _ mm79)) Via.refl e25 c26 (g := (mkF m 29 #[lR a, lR li, lI 1] [(.ref a)])) rfl rfl (hb hby d10_29)
  refine Ds (B := T28.setTop (mkF m 32 #[lR a, lR li, lI 1] [(.ref b3)])) (fun _ k => st28 _ k) ?_
  refine Ds (B := T28.setTop (mkF m 35 #[lR a, lR li, lI 1] [(.int 1), (.ref li), (.int 1), (.ref b3)])) (fun _ k => XS.iloadN X28.here hx rfl (hb hby d10_32) rfl (XS.aloadN X28.here hx rfl (hb hby d10_33) rfl rfl (XS.iloadN X28.here hx rfl (hb hby d10_34) rfl k))) ?_
  have c29 := (Fld.other W23 (Fld.ext E18 c11) (Or.inl ne_li_b3))
  have c30 := ((c12.ext E18).other W23 ne_t_b3)
  have c31 := (Fld.other W23 (Fld.ext E18 c13) (Or.inl ne_li_b3))
  have c32 := (Exa.wr W23 (Exa.ext E18 c14))
  obtain ⟨cq33, kq33, q33a, q33b, q33c⟩ := isOf hZ e28 c32
  obtain ⟨_, _, ⟨T33, L33, k33, n33⟩, -, X33, ⟨Lc33, hQ33, l33, y33, z33⟩, st33⟩ := X28.interfaceBack hx (xi := (⟨"java/util/List", "get", "(I)Ljava/lang/Object;"⟩ : MethodName)) (y := (⟨"java/util/ArrayList", "get", "(I)Ljava/lang/Object;"⟩ : MethodName)) hown (mvT hZ (hw _ mm81)) (mvT hZ (hw _ mm82)) (mvT hZ (hw _ mm83)) (mvT hZ (hw _ mm84)) (mvT hZ (hw _ mm85)) (mvT hZ (hw _ mm86)) (mvT hZ (hw _ mm87)) (mvT hZ (hw _ mm75)) (by decide) (backOf (W := 2) (rm12 l Z a0 hw [] li (1 : Int32) t kt [(.ref el0), (.ref el1), (.ref el2), .null, .null, .null, .null, .null, .null, .null] el1 (3 : Int32) h23 n0 Z23 c29 c30 ⟨by decide, by decide⟩ rfl c31 c32 ⟨by decide, by decide⟩) hZ (hw _ mm88) (hw _ mm2) (by decide) (by decide)) q33a q33b q33c (g := (mkF m 35 #[lR a, lR li, lI 1] [(.int 1), (.ref li), (.int 1), (.ref b3)])) rfl (by rw [hml]; rfl) (Steps.refl _) (argsL := [(.int 1)]) (rest := [(.int 1), (.ref b3)]) (lenOf pd_6 rfl) rfl (by show 2 * 0 + _ ≤ _; exact Nat.le_of_eq rfl) (hb hby d10_35) (fun _ _ => ⟨rfl, e28, (by decide : 2 + 0 ≤ _), (by decide : 5 + 0 ≤ _)⟩)
  dsimp only [Pt.U, Pt.locs, Pt.cells, Pt.slots] at X33 l33 y33 z33 st33 hQ33
  rw [l33, y33, z33] at X33
  obtain ⟨hv33, N33q, e33⟩ := hQ33
  rw [hv33] at st33
  have N33 := Fr.app N23 N33q
  refine Ds (B := T33.setTop (mkF m 40 #[lR a, lR li, lI 1] [(.ref el1), (.int 1), (.ref b3)])) (fun _ k => st33.trans k) ?_
  have c35 := (Exa.wr W23 (Exa.ext E18 (Exa.wr W6 (Exa.ext E3 X_el1))))
  obtain ⟨T34, X34, e34, st34⟩ := castY X33 hx hZ hown (hw _ mm77) e33 (Ins.self c35) (g := (mkF m 40 #[lR a, lR li, lI 1] [(.ref el1), (.int 1), (.ref b3)])) rfl rfl (hb hby d10_40)
  refine Ds (B := T34.setTop (mkF m 43 #[lR a, lR li, lI 1] [(.ref el1), (.int 1), (.ref b3)])) (fun _ k => st34 _ k) ?_
  have c37 := ((c20.ext E18).other W23 ne_el1_b3)
  obtain ⟨T36, h36, X36, e36, E36, A36, Ex36, st36⟩ := cloneH X34 hx hZ hown (hw _ mm103) (hw _ mm104) (hw _ mm108) (hw _ mm106) (hw _ mm107) (hw _ mm109) e34 c37.arh c35 (g := (mkF m 43 #[lR a, lR li, lI 1] [(.ref el1), (.int 1), (.ref b3)])) rfl (by rw [hml]; rfl) rfl (hb hby d10_43) (by decide) (W := 2) (by show 2 * 0 + _ ≤ _; exact Nat.le_of_eq rfl) (by decide) (cap := 1) (by decide) (by decide) (by decide)
  have c38 := ((c19.ext E18).other W23 ne_el0_b3)
  have c39 := ((c21.ext E18).other W23 ne_el2_b3)
  have c40 := (V18.other W23 (Ne.symm ne_b3_b18))
  obtain ⟨b36, g36⟩ : ∃ z, z = h23.size := ⟨_, rfl⟩
  rw [← g36] at A36 Ex36 st36
  have ne_li_b36 : li ≠ b36 := Nat.ne_of_lt (Nat.lt_of_lt_of_le c32.lt (Nat.le_of_eq g36.symm))
  have ne_a_b36 : a ≠ b36 := Nat.ne_of_lt (Nat.lt_of_lt_of_le c26.lt (Nat.le_of_eq g36.symm))
  have ne_t_b36 : t ≠ b36 := Nat.ne_of_lt (Nat.lt_of_lt_of_le c30.lt (Nat.le_of_eq g36.symm))
  have ne_el0_b36 : el0 ≠ b36 := Nat.ne_of_lt (Nat.lt_of_lt_of_le c38.lt (Nat.le_of_eq g36.symm))
  have ne_el1_b36 : el1 ≠ b36 := Nat.ne_of_lt (Nat.lt_of_lt_of_le c37.lt (Nat.le_of_eq g36.symm))
  have ne_el2_b36 : el2 ≠ b36 := Nat.ne_of_lt (Nat.lt_of_lt_of_le c39.lt (Nat.le_of_eq g36.symm))
  have ne_b3_b36 : b3 ≠ b36 := Nat.ne_of_lt (Nat.lt_of_lt_of_le V23.lt (Nat.le_of_eq g36.symm))
  have ne_b18_b36 : b18 ≠ b36 := Nat.ne_of_lt (Nat.lt_of_lt_of_le c40.lt (Nat.le_of_eq g36.symm))
  have ge_b36 : n0 ≤ b36 := Nat.le_trans Z23 (Nat.le_of_eq g36.symm)
  have sz_b36 : h0.size ≤ b36 := Nat.le_trans (KK23).1 (Nat.le_of_eq g36.symm)
  have Z36 : n0 ≤ h36.size := Nat.le_trans Z23 E36.1
  have V36 : Arv Z h36 b36 kel1 .int 1 [(.int vb)] (.int 0) := A36
  have KK36 : Keep h0 h36 [a] := (KK23).ext E36
  refine Ds (B := T36.setTop (mkF m 46 #[lR a, lR li, lI 1] [(.ref b36), (.int 1), (.ref b3)])) (fun _ k => st36 _ k) ?_
  obtain ⟨T41, X41, e41, st41⟩ := castY X36 hx hZ hown (hw _ mm77) e36 (Ins.self Ex36) (g := (mkF m 46 #[lR a, lR li, lI 1] [(.ref b36), (.int 1), (.ref b3)])) rfl rfl (hb hby d10_46)
  refine Ds (B := T41.setTop (mkF m 49 #[lR a, lR li, lI 1] [(.ref b36), (.int 1), (.ref b3)])) (fun _ k => st41 _ k) ?_
  have c43 := (V23.ext E36)
  obtain ⟨cl42, Ar42, q42, S42, M42, H42, G42⟩ := id c43
  have hin42 : ¬ ((1 : Int32) < 0 ∨ cl42.slots.size ≤ ((1 : Int32)).toNatClampNeg) := inb_of S42 ⟨by decide, by decide⟩
  obtain ⟨T42, h42, X42, e42, W42, st42⟩ := stR X41 hx hZ e41 Ar42 (j := (1 : Int32)) hin42 rfl (Sto.ofVA Ar42 q42 O3 (Ins.self Ex36)) (g := (mkF m 49 #[lR a, lR li, lI 1] [(.ref b36), (.int 1), (.ref b3)])) rfl rfl (hb hby d10_49)
  have V42 : Arv Z h42 b3 k3 (.array .int) (3 : Int32) [(.ref b18), (.ref b36), .null] .null := Arv.set Ar42 q42 S42 M42 H42 G42 rfl W42 1 rfl (Nat.le_of_ble_eq_true rfl)
  have N42 := Fr.snoc X42 N33 ge_b3
  have Z42 : n0 ≤ h42.size := Nat.le_trans Z36 (Keep.of_wr W42).1
  have KK42 : Keep h0 h42 [a] := (KK36).wr W42 (Or.inr sz_b3)
  refine Ds (B := T42.setTop (mkF m 50 #[lR a, lR li, lI 1] [])) (fun _ k => st42 _ k) ?_
  refine Ds (B := T42.setTop (mkF m 21 #[lR a, lR li, lI 2] [(.ref a), (.int 2)])) (fun _ k => XS.iinc X42.here hx rfl (hb hby d10_50) rfl (l' := #[lR a, lR li, lI 2]) rfl (XS.goto X42.here hx rfl (pc0 := 53) (pc' := 19) rfl (hb hby d10_53) (by decide) (by decide) (XS.iloadN X42.here hx rfl (hb hby d10_19) rfl (XS.aloadN X42.here hx rfl (hb hby d10_20) rfl rfl k)))) ?_
  have c45 := (Fld.other W42 (Fld.ext E36 c26) (Or.inl ne_a_b3))
  obtain ⟨T44, X44, e44, st44⟩ := getF X42 hx hZ hown (host := "") (Or.inl (hw _ mm79)) Via.refl e42 c45 (g := (mkF m 21 #[lR a, lR li, lI 2] [(.ref a), (.int 2)])) rfl rfl (hb hby d10_21)
  refine Ds (B := T44.setTop (mkF m 24 #[lR a, lR li, lI 2] [(.ref b3), (.int 2)])) (fun _ k => st44 _ k) ?_
  obtain ⟨cl46, Ar46, q46, S46, M46, -⟩ := id V42
  refine Ds (B := T44.setTop (mkF m 25 #[lR a, lR li, lI 2] [(.int 3), (.int 2)])) (fun _ k => X44.arraylength hx (by rw [e44]; exact Ar46.1) (State.isArrayOf_alike hZ.alike Ar46.2.1) (g := (mkF m 24 #[lR a, lR li, lI 2] [(.ref b3), (.int 2)])) rfl rfl (hb hby d10_24) _ (by rw [len_of S46 M46]; exact k)) ?_
  refine Ds (B := T44.setTop (mkF m 29 #[lR a, lR li, lI 2] [(.ref a)])) (fun _ k => XS.icmpNo X44.here hx rfl (hb hby d10_25) rfl (tlt (by decide : (2 : Int32) < (3 : Int32))).2.1 (XS.aloadN X44.here hx rfl (hb hby d10_28) rfl rfl k)) ?_
  obtain ⟨T47, X47, e47, st47⟩ := getF X44 hx hZ hown (host := "") (Or.inl (hw _ mm79)) Via.refl e44 c45 (g := (mkF m 29 #[lR a, lR li, lI 2] [(.ref a)])) rfl rfl (hb hby d10_29)
  refine Ds (B := T47.setTop (mkF m 32 #[lR a, lR li, lI 2] [(.ref b3)])) (fun _ k => st47 _ k) ?_
  refine Ds (B := T47.setTop (mkF m 35 #[lR a, lR li, lI 2] [(.int 2), (.ref li), (.int 2), (.ref b3)])) (fun _ k => XS.iloadN X47.here hx rfl (hb hby d10_32) rfl (XS.aloadN X47.here hx rfl (hb hby d10_33) rfl rfl (XS.iloadN X47.here hx rfl (hb hby d10_34) rfl k))) ?_
  have c48 := (Fld.other W42 (Fld.ext E36 c29) (Or.inl ne_li_b3))
  have c49 := ((c30.ext E36).other W42 ne_t_b3)
  have c50 := (Fld.other W42 (Fld.ext E36 c31) (Or.inl ne_li_b3))
  have c51 := (Exa.wr W42 (Exa.ext E36 c32))
  obtain ⟨cq52, kq52, q52a, q52b, q52c⟩ := isOf hZ e47 c51
  obtain ⟨_, _, ⟨T52, L52, k52, n52⟩, -, X52, ⟨Lc52, hQ52, l52, y52, z52⟩, st52⟩ := X47.interfaceBack hx (xi := (⟨"java/util/List", "get", "(I)Ljava/lang/Object;"⟩ : MethodName)) (y := (⟨"java/util/ArrayList", "get", "(I)Ljava/lang/Object;"⟩ : MethodName)) hown (mvT hZ (hw _ mm81)) (mvT hZ (hw _ mm82)) (mvT hZ (hw _ mm83)) (mvT hZ (hw _ mm84)) (mvT hZ (hw _ mm85)) (mvT hZ (hw _ mm86)) (mvT hZ (hw _ mm87)) (mvT hZ (hw _ mm75)) (by decide) (backOf (W := 2) (rm12 l Z a0 hw [] li (2 : Int32) t kt [(.ref el0), (.ref el1), (.ref el2), .null, .null, .null, .null, .null, .null, .null] el2 (3 : Int32) h42 n0 Z42 c48 c49 ⟨by decide, by decide⟩ rfl c50 c51 ⟨by decide, by decide⟩) hZ (hw _ mm88) (hw _ mm2) (by decide) (by decide)) q52a q52b q52c (g := (mkF m 35 #[lR a, lR li, lI 2] [(.int 2), (.ref li), (.int 2), (.ref b3)])) rfl (by rw [hml]; rfl) (Steps.refl _) (argsL := [(.int 2)]) (rest := [(.int 2), (.ref b3)]) (lenOf pd_6 rfl) rfl (by show 2 * 0 + _ ≤ _; exact Nat.le_of_eq rfl) (hb hby d10_35) (fun _ _ => ⟨rfl, e47, (by decide : 3 + 0 ≤ _), (by decide : 6 + 0 ≤ _)⟩)
  dsimp only [Pt.U, Pt.locs, Pt.cells, Pt.slots] at X52 l52 y52 z52 st52 hQ52
  rw [l52, y52, z52] at X52
  obtain ⟨hv52, N52q, e52⟩ := hQ52
  rw [hv52] at st52
  have N52 := Fr.app N42 N52q
  refine Ds (B := T52.setTop (mkF m 40 #[lR a, lR li, lI 2] [(.ref el2), (.int 2), (.ref b3)])) (fun _ k => st52.trans k) ?_
  have c54 := (Exa.wr W42 (Exa.ext E36 (Exa.wr W23 (Exa.ext E18 (Exa.wr W6 (Exa.ext E3 X_el2))))))
  obtain ⟨T53, X53, e53, st53⟩ := castY X52 hx hZ hown (hw _ mm77) e52 (Ins.self c54) (g := (mkF m 40 #[lR a, lR li, lI 2] [(.ref el2), (.int 2), (.ref b3)])) rfl rfl (hb hby d10_40)
  refine Ds (B := T53.setTop (mkF m 43 #[lR a, lR li, lI 2] [(.ref el2), (.int 2), (.ref b3)])) (fun _ k => st53 _ k) ?_
  have c56 := ((c39.ext E36).other W42 ne_el2_b3)
  obtain ⟨T55, h55, X55, e55, E55, A55, Ex55, st55⟩ := cloneH X53 hx hZ hown (hw _ mm103) (hw _ mm104) (hw _ mm108) (hw _ mm106) (hw _ mm107) (hw _ mm109) e53 c56.arh c54 (g := (mkF m 43 #[lR a, lR li, lI 2] [(.ref el2), (.int 2), (.ref b3)])) rfl (by rw [hml]; rfl) rfl (hb hby d10_43) (by decide) (W := 2) (by show 2 * 0 + _ ≤ _; exact Nat.le_of_eq rfl) (by decide) (cap := 1) (by decide) (by decide) (by decide)
  have c57 := ((c38.ext E36).other W42 ne_el0_b3)
  have c58 := ((c37.ext E36).other W42 ne_el1_b3)
  have c59 := ((c40.ext E36).other W42 (Ne.symm ne_b3_b18))
  have c60 := (V36.other W42 (Ne.symm ne_b3_b36))
  obtain ⟨b55, g55⟩ : ∃ z, z = h42.size := ⟨_, rfl⟩
  rw [← g55] at A55 Ex55 st55
  have ne_li_b55 : li ≠ b55 := Nat.ne_of_lt (Nat.lt_of_lt_of_le c51.lt (Nat.le_of_eq g55.symm))
  have ne_a_b55 : a ≠ b55 := Nat.ne_of_lt (Nat.lt_of_lt_of_le c45.lt (Nat.le_of_eq g55.symm))
  have ne_t_b55 : t ≠ b55 := Nat.ne_of_lt (Nat.lt_of_lt_of_le c49.lt (Nat.le_of_eq g55.symm))
  have ne_el0_b55 : el0 ≠ b55 := Nat.ne_of_lt (Nat.lt_of_lt_of_le c57.lt (Nat.le_of_eq g55.symm))
  have ne_el1_b55 : el1 ≠ b55 := Nat.ne_of_lt (Nat.lt_of_lt_of_le c58.lt (Nat.le_of_eq g55.symm))
  have ne_el2_b55 : el2 ≠ b55 := Nat.ne_of_lt (Nat.lt_of_lt_of_le c56.lt (Nat.le_of_eq g55.symm))
  have ne_b3_b55 : b3 ≠ b55 := Nat.ne_of_lt (Nat.lt_of_lt_of_le V42.lt (Nat.le_of_eq g55.symm))
  have ne_b18_b55 : b18 ≠ b55 := Nat.ne_of_lt (Nat.lt_of_lt_of_le c59.lt (Nat.le_of_eq g55.symm))
  have ne_b36_b55 : b36 ≠ b55 := Nat.ne_of_lt (Nat.lt_of_lt_of_le c60.lt (Nat.le_of_eq g55.symm))
  have ge_b55 : n0 ≤ b55 := Nat.le_trans Z42 (Nat.le_of_eq g55.symm)
  have sz_b55 : h0.size ≤ b55 := Nat.le_trans (KK42).1 (Nat.le_of_eq g55.symm)
  have Z55 : n0 ≤ h55.size := Nat.le_trans Z42 E55.1
  have V55 : Arv Z h55 b55 kel2 .int 1 [(.int vc)] (.int 0) := A55
  have KK55 : Keep h0 h55 [a] := (KK42).ext E55
  refine Ds (B := T55.setTop (mkF m 46 #[lR a, lR li, lI 2] [(.ref b55), (.int 2), (.ref b3)])) (fun _ k => st55 _ k) ?_
  obtain ⟨T61, X61, e61, st61⟩ := castY X55 hx hZ hown (hw _ mm77) e55 (Ins.self Ex55) (g := (mkF m 46 #[lR a, lR li, lI 2] [(.ref b55), (.int 2), (.ref b3)])) rfl rfl (hb hby d10_46)
  refine Ds (B := T61.setTop (mkF m 49 #[lR a, lR li, lI 2] [(.ref b55), (.int 2), (.ref b3)])) (fun _ k => st61 _ k) ?_
  have c63 := (V42.ext E55)
  obtain ⟨cl62, Ar62, q62, S62, M62, H62, G62⟩ := id c63
  have hin62 : ¬ ((2 : Int32) < 0 ∨ cl62.slots.size ≤ ((2 : Int32)).toNatClampNeg) := inb_of S62 ⟨by decide, by decide⟩
  obtain ⟨T62, h62, X62, e62, W62, st62⟩ := stR X61 hx hZ e61 Ar62 (j := (2 : Int32)) hin62 rfl (Sto.ofVA Ar62 q62 O3 (Ins.self Ex55)) (g := (mkF m 49 #[lR a, lR li, lI 2] [(.ref b55), (.int 2), (.ref b3)])) rfl rfl (hb hby d10_49)
  have V62 : Arv Z h62 b3 k3 (.array .int) (3 : Int32) [(.ref b18), (.ref b36), (.ref b55)] .null := Arv.set Ar62 q62 S62 M62 H62 G62 rfl W62 2 rfl (Nat.le_of_ble_eq_true rfl)
  have N62 := Fr.snoc X62 N52 ge_b3
  have Z62 : n0 ≤ h62.size := Nat.le_trans Z55 (Keep.of_wr W62).1
  have KK62 : Keep h0 h62 [a] := (KK55).wr W62 (Or.inr sz_b3)
  refine Ds (B := T62.setTop (mkF m 50 #[lR a, lR li, lI 2] [])) (fun _ k => st62 _ k) ?_
  refine Ds (B := T62.setTop (mkF m 21 #[lR a, lR li, lI 3] [(.ref a), (.int 3)])) (fun _ k => XS.iinc X62.here hx rfl (hb hby d10_50) rfl (l' := #[lR a, lR li, lI 3]) rfl (XS.goto X62.here hx rfl (pc0 := 53) (pc' := 19) rfl (hb hby d10_53) (by decide) (by decide) (XS.iloadN X62.here hx rfl (hb hby d10_19) rfl (XS.aloadN X62.here hx rfl (hb hby d10_20) rfl rfl k)))) ?_
  have c65 := (Fld.other W62 (Fld.ext E55 c45) (Or.inl ne_a_b3))
  obtain ⟨T64, X64, e64, st64⟩ := getF X62 hx hZ hown (host := "") (Or.inl (hw _ mm79)) Via.refl e62 c65 (g := (mkF m 21 #[lR a, lR li, lI 3] [(.ref a), (.int 3)])) rfl rfl (hb hby d10_21)
  refine Ds (B := T64.setTop (mkF m 24 #[lR a, lR li, lI 3] [(.ref b3), (.int 3)])) (fun _ k => st64 _ k) ?_
  obtain ⟨cl66, Ar66, q66, S66, M66, -⟩ := id V62
  refine Ds (B := T64.setTop (mkF m 25 #[lR a, lR li, lI 3] [(.int 3), (.int 3)])) (fun _ k => X64.arraylength hx (by rw [e64]; exact Ar66.1) (State.isArrayOf_alike hZ.alike Ar66.2.1) (g := (mkF m 24 #[lR a, lR li, lI 3] [(.ref b3), (.int 3)])) rfl rfl (hb hby d10_24) _ (by rw [len_of S66 M66]; exact k)) ?_
  refine Ds (B := T64.setTop (mkF m 56 #[lR a, lR li, lI 3] [])) (fun _ k => XS.icmpYes X64.here hx rfl (pc0 := 25) (pc' := 56) rfl (hb hby d10_25) rfl (flt (by decide : ¬ ((3 : Int32) < (3 : Int32)))).2.1 (by decide) (by decide) k) ?_
  obtain ⟨fs, hr, hrun, hended, hW, hsame⟩ := X64.leave (v := none) (hlocks := hlk) (fun _ => rfl)
  have c68 := (Exa.wr W62 (Exa.ext E55 (Exa.wr W42 (Exa.ext E36 (Exa.wr W23 (Exa.ext E18 (Exa.wr W6 c4)))))))
  have c69 := ((c59.ext E55).other W62 (Ne.symm ne_b3_b18))
  have c70 := ((c60.ext E55).other W62 (Ne.symm ne_b3_b36))
  have c71 := (V55.other W62 (Ne.symm ne_b3_b55))
  refine Done.fin (X64.returnOut hx Bd.returns (hb hby d10_56) hr) hrun hended ⟨_, _, rfl, ?_, ⟨_, rfl⟩, hW, hsame.mono (by decide) (by decide)⟩
  show Qrm10 Z a li mc t kt el0 el1 el2 kel0 kel1 kel2 va vb vc vd h0 n0 _ T64.heap _
  rw [e64]
  exact ⟨b3, _, b18, b36, b55, rfl, N62, KK62, sz_b3, sz_b18, sz_b36, sz_b55, c68, c65, V62, c69, c70, c71⟩
theorem ef_rm17 (m : MethodId) (a : Addr) : entryFrame m #[(.ref a)] 7 = mkF m 0 #[lR a, lU, lU, lU, lU, lU, lU] [] := by first | (simp [entryFrame, mkF, argsToLocals, Value.category]; done) | rfl
def Qrm17 (Z : State) (a : Addr) (u : Addr) (ku : ClassId) (cc0 : Addr) (cc1 : Addr) (cc2 : Addr) (kel0 : ClassId) (kel1 : ClassId) (kel2 : ClassId) (va : Int32) (vb : Int32) (vc : Int32) (vd : Int32) (h0 : Heap) (n0 : Nat) (v : Option Value) (h : Heap) (L : List Loc) : Prop := v = some (.long (4 : Int64)) ∧ Fr n0 L ∧ h = h0
def Prm17 (s : State) (Z : State) (a : Addr) (u : Addr) (ku : ClassId) (cc0 : Addr) (cc1 : Addr) (cc2 : Addr) (kel0 : ClassId) (kel1 : ClassId) (kel2 : ClassId) (va : Int32) (vb : Int32) (vc : Int32) (vd : Int32) (h0 : Heap) (n0 : Nat) : State → Outcome → Prop := fun U' o => ∃ v L, o = .returned v ∧ Qrm17 Z a u ku cc0 cc1 cc2 kel0 kel1 kel2 va vb vc vd h0 n0 v U'.heap L ∧ FrameEnd s o U' L ({ frames := 0, cells := 0, slots := 0, locals := 0 } : Room).cells ({ frames := 0, cells := 0, slots := 0, locals := 0 } : Room).slots
set_option maxRecDepth 65536 in
set_option maxHeartbeats 40000000 in
theorem rm17 (l : Launch) (Z : State) (a0 : Array Value) (hw : ∀ d ∈ tables_1, d.before a0 Z = true) (ws : List Jvm.Cond) (a : Addr) (u : Addr) (ku : ClassId) (cc0 : Addr) (cc1 : Addr) (cc2 : Addr) (kel0 : ClassId) (kel1 : ClassId) (kel2 : ClassId) (va : Int32) (vb : Int32) (vc : Int32) (vd : Int32) (h0 : Heap) (n0 : Nat) (Z0 : n0 ≤ h0.size) (Fa : Fld Z h0 a "com/example/percurso/percurso/suite/Suite" "tests" "[[I" (.ref u)) (Vu : Arv Z h0 u ku (.array .int) (3 : Int32) [(.ref cc0), (.ref cc1), (.ref cc2)] .null) (V_cc0 : Arv Z h0 cc0 kel0 .int 2 [(.int va), (.int vd)] (.int 0)) (V_cc1 : Arv Z h0 cc1 kel1 .int 1 [(.int vb)] (.int 0)) (V_cc2 : Arv Z h0 cc2 kel2 .int 1 [(.int vc)] (.int 0)) :
    MetFree l (⟨"com/example/percurso/percurso/suite/Suite", "inputCount", "()J"⟩ : MethodName) (head1 (Jvm.Cond.code (⟨"com/example/percurso/percurso/suite/Suite", "inputCount", "()J"⟩ : MethodName) prog_193_method_7_code 7 (some .long) :: ws) ({ frames := 0, cells := 0, slots := 0, locals := 0 } : Room)) (fun aa U => aa = #[(.ref a)] ∧ Z.Warmed39 U.vm ∧ U.heap = h0) (fun _ _ _ _ _ => True) (fun _ U o U' => ∃ v L, o = .returned v ∧ Qrm17 Z a u ku cc0 cc1 cc2 kel0 kel1 kel2 va vb vc vd h0 n0 v U'.heap L ∧ FrameEnd U o U' L ({ frames := 0, cells := 0, slots := 0, locals := 0 } : Room).cells ({ frames := 0, cells := 0, slots := 0, locals := 0 } : Room).slots) := by
  refine MetFree.of_bodySF (plainFor_of_name pn_5) hisR ?_
  intro p e s m args below meth c s₁ Bd hml0 hP hK
  obtain ⟨rfl, hZ, hh⟩ := hP
  have hx := Bd.exec
  have hlk : meth.locks = false := by first | exact BodyLoose.notSynchronized Bd | exact Body.notSynchronized Bd
  have hby := Bd.bytes
  have hml : c.maxLocals = 7 := hml0
  have hown : s.vm.findClass "com/example/percurso/percurso/suite/Suite" = some m.cls := findClass_of_methodNamed Bd.named
  have hnm := (name_of_methodNamed Bd.named Bd.method).1
  have X0 : Stand p l e ({ frames := 0, cells := 0, slots := 0, locals := 0 } : Room) s m #[(.ref a)] below meth c s₁ [] 0 0 := Stand.of_body Bd
  have e0 : s₁.heap = h0 := by rw [← hh, Bd.state]; rfl
  have N0 := Fr.nil n0
  show Done p e below (Prm17 s Z a u ku cc0 cc1 cc2 kel0 kel1 kel2 va vb vc vd h0 n0) (s₁.setTop (entryFrame m #[(.ref a)] 7))
  refine Ds (B := s₁.setTop (mkF m 0 #[lR a, lU, lU, lU, lU, lU, lU] [])) (fun _ k => castTop (ef_rm17 m a) k) ?_
  refine Ds (B := s₁.setTop (mkF m 1 #[lR a, lU, lU, lU, lU, lU, lU] [(.long (0 : Int64))])) (fun _ k => XS.lconst X0.here hx rfl (hb hby d17_0) k) ?_
  refine Ds (B := s₁.setTop (mkF m 2 #[lR a, lJ 0, lS, lU, lU, lU, lU] [])) (fun _ k => XS.lstoreN X0.here hx rfl (hb hby d17_1) rfl (l' := #[lR a, lJ 0, lS, lU, lU, lU, lU]) rfl k) ?_
  refine Ds (B := s₁.setTop (mkF m 3 #[lR a, lJ 0, lS, lU, lU, lU, lU] [(.ref a)])) (fun _ k => XS.aloadN X0.here hx rfl (hb hby d17_2) rfl rfl k) ?_
  obtain ⟨T1, X1, e1, st1⟩ := getF X0 hx hZ hown (host := "") (Or.inl (hw _ mm79)) Via.refl e0 Fa (g := (mkF m 3 #[lR a, lJ 0, lS, lU, lU, lU, lU] [(.ref a)])) rfl rfl (hb hby d17_3)
  refine Ds (B := T1.setTop (mkF m 6 #[lR a, lJ 0, lS, lU, lU, lU, lU] [(.ref u)])) (fun _ k => st1 _ k) ?_
  refine Ds (B := T1.setTop (mkF m 7 #[lR a, lJ 0, lS, lR u, lU, lU, lU] [])) (fun _ k => XS.astoreN X1.here hx rfl (hb hby d17_6) rfl rfl (l' := #[lR a, lJ 0, lS, lR u, lU, lU, lU]) rfl k) ?_
  refine Ds (B := T1.setTop (mkF m 8 #[lR a, lJ 0, lS, lR u, lU, lU, lU] [(.ref u)])) (fun _ k => XS.aloadN X1.here hx rfl (hb hby d17_7) rfl rfl k) ?_
  obtain ⟨cl2, Ar2, q2, S2, M2, -⟩ := id Vu
  refine Ds (B := T1.setTop (mkF m 9 #[lR a, lJ 0, lS, lR u, lU, lU, lU] [(.int 3)])) (fun _ k => X1.arraylength hx (by rw [e1]; exact Ar2.1) (State.isArrayOf_alike hZ.alike Ar2.2.1) (g := (mkF m 8 #[lR a, lJ 0, lS, lR u, lU, lU, lU] [(.ref u)])) rfl rfl (hb hby d17_8) _ (by rw [len_of S2 M2]; exact k)) ?_
  refine Ds (B := T1.setTop (mkF m 21 #[lR a, lJ 0, lS, lR u, lI 3, lI 0, lU] [])) (fun _ k => XS.istore X1.here hx rfl (hb hby d17_9) rfl (l' := #[lR a, lJ 0, lS, lR u, lI 3, lU, lU]) rfl (XS.iconst X1.here hx rfl (hb hby d17_11) (XS.istore X1.here hx rfl (hb hby d17_12) rfl (l' := #[lR a, lJ 0, lS, lR u, lI 3, lI 0, lU]) rfl (XS.iload X1.here hx rfl (hb hby d17_14) rfl (XS.iload X1.here hx rfl (hb hby d17_16) rfl (XS.icmpNo X1.here hx rfl (hb hby d17_18) rfl (tlt (by decide : (0 : Int32) < (3 : Int32))).2.1 k)))))) ?_
  refine Ds (B := T1.setTop (mkF m 24 #[lR a, lJ 0, lS, lR u, lI 3, lI 0, lU] [(.int 0), (.ref u)])) (fun _ k => XS.aloadN X1.here hx rfl (hb hby d17_21) rfl rfl (XS.iload X1.here hx rfl (hb hby d17_22) rfl k)) ?_
  obtain ⟨cl3, Ar3, q3, S3, M3, H3, G3⟩ := id Vu
  have hin3 : ¬ ((0 : Int32) < 0 ∨ cl3.slots.size ≤ ((0 : Int32)).toNatClampNeg) := inb_of S3 ⟨by decide, by decide⟩
  have hat3 : cl3.slots[((0 : Int32)).toNatClampNeg]? = some (.ref cc0) := Has.at H3 hin3 rfl
  refine Ds (B := T1.setTop (mkF m 25 #[lR a, lJ 0, lS, lR u, lI 3, lI 0, lU] [(.ref cc0)])) (fun _ k => X1.aaload hx (j := (0 : Int32)) (v := (.ref cc0)) (by rw [e1]; exact Ar3.1) (State.isArrayOf_alike hZ.alike Ar3.2.1) rfl Ar3.2.2 hin3 hat3 (g := (mkF m 24 #[lR a, lJ 0, lS, lR u, lI 3, lI 0, lU] [(.int 0), (.ref u)])) rfl rfl (hb hby d17_24) _ k) ?_
  refine Ds (B := T1.setTop (mkF m 27 #[lR a, lJ 0, lS, lR u, lI 3, lI 0, lR cc0] [])) (fun _ k => XS.astore X1.here hx rfl (hb hby d17_25) rfl rfl (l' := #[lR a, lJ 0, lS, lR u, lI 3, lI 0, lR cc0]) rfl k) ?_
  refine Ds (B := T1.setTop (mkF m 30 #[lR a, lJ 0, lS, lR u, lI 3, lI 0, lR cc0] [(.ref cc0), (.long (0 : Int64))])) (fun _ k => XS.lloadN X1.here hx rfl (hb hby d17_27) rfl (XS.aload X1.here hx rfl (hb hby d17_28) rfl rfl k)) ?_
  obtain ⟨cl4, Ar4, q4, S4, M4, -⟩ := id V_cc0
  refine Ds (B := T1.setTop (mkF m 31 #[lR a, lJ 0, lS, lR u, lI 3, lI 0, lR cc0] [(.int 2), (.long (0 : Int64))])) (fun _ k => X1.arraylength hx (by rw [e1]; exact Ar4.1) (State.isArrayOf_alike hZ.alike Ar4.2.1) (g := (mkF m 30 #[lR a, lJ 0, lS, lR u, lI 3, lI 0, lR cc0] [(.ref cc0), (.long (0 : Int64))])) rfl rfl (hb hby d17_30) _ (by rw [len_of S4 M4]; exact k)) ?_
  refine Ds (B := T1.setTop (mkF m 32 #[lR a, lJ 0, lS, lR u, lI 3, lI 0, lR cc0] [(.long (2 : Int64)), (.long (0 : Int64))])) (fun _ k => XS.i2l X1.here hx rfl (hb hby d17_31) rfl k) ?_
  refine Ds (B := T1.setTop (mkF m 33 #[lR a, lJ 0, lS, lR u, lI 3, lI 0, lR cc0] [(.long (2 : Int64))])) (fun _ k => XS.ladd X1.here hx rfl (hb hby d17_32) rfl k) ?_
  refine Ds (B := T1.setTop (mkF m 34 #[lR a, lJ 2, lS, lR u, lI 3, lI 0, lR cc0] [])) (fun _ k => XS.lstoreN X1.here hx rfl (hb hby d17_33) rfl (l' := #[lR a, lJ 2, lS, lR u, lI 3, lI 0, lR cc0]) rfl k) ?_
  refine Ds (B := T1.setTop (mkF m 22 #[lR a, lJ 2, lS, lR u, lI 3, lI 1, lR cc0] [(.ref u)])) (fun _ k => XS.iinc X1.here hx rfl (hb hby d17_34) rfl (l' := #[lR a, lJ 2, lS, lR u, lI 3, lI 1, lR cc0]) rfl (XS.goto X1.here hx rfl (pc0 := 37) (pc' := 14) rfl (hb hby d17_37) (by decide) (by decide) (XS.iload X1.here hx rfl (hb hby d17_14) rfl (XS.iload X1.here hx rfl (hb hby d17_16) rfl (XS.icmpNo X1.here hx rfl (hb hby d17_18) rfl (tlt (by decide : (1 : Int32) < (3 : Int32))).2.1 (XS.aloadN X1.here hx rfl (hb hby d17_21) rfl rfl k)))))) ?_
  refine Ds (B := T1.setTop (mkF m 24 #[lR a, lJ 2, lS, lR u, lI 3, lI 1, lR cc0] [(.int 1), (.ref u)])) (fun _ k => XS.iload X1.here hx rfl (hb hby d17_22) rfl k) ?_
  obtain ⟨cl5, Ar5, q5, S5, M5, H5, G5⟩ := id Vu
  have hin5 : ¬ ((1 : Int32) < 0 ∨ cl5.slots.size ≤ ((1 : Int32)).toNatClampNeg) := inb_of S5 ⟨by decide, by decide⟩
  have hat5 : cl5.slots[((1 : Int32)).toNatClampNeg]? = some (.ref cc1) := Has.at H5 hin5 rfl
  refine Ds (B := T1.setTop (mkF m 25 #[lR a, lJ 2, lS, lR u, lI 3, lI 1, lR cc0] [(.ref cc1)])) (fun _ k => X1.aaload hx (j := (1 : Int32)) (v := (.ref cc1)) (by rw [e1]; exact Ar5.1) (State.isArrayOf_alike hZ.alike Ar5.2.1) rfl Ar5.2.2 hin5 hat5 (g := (mkF m 24 #[lR a, lJ 2, lS, lR u, lI 3, lI 1, lR cc0] [(.int 1), (.ref u)])) rfl rfl (hb hby d17_24) _ k) ?_
  refine Ds (B := T1.setTop (mkF m 27 #[lR a, lJ 2, lS, lR u, lI 3, lI 1, lR cc1] [])) (fun _ k => XS.astore X1.here hx rfl (hb hby d17_25) rfl rfl (l' := #[lR a, lJ 2, lS, lR u, lI 3, lI 1, lR cc1]) rfl k) ?_
  refine Ds (B := T1.setTop (mkF m 30 #[lR a, lJ 2, lS, lR u, lI 3, lI 1, lR cc1] [(.ref cc1), (.long (2 : Int64))])) (fun _ k => XS.lloadN X1.here hx rfl (hb hby d17_27) rfl (XS.aload X1.here hx rfl (hb hby d17_28) rfl rfl k)) ?_
  obtain ⟨cl6, Ar6, q6, S6, M6, -⟩ := id V_cc1
  refine Ds (B := T1.setTop (mkF m 31 #[lR a, lJ 2, lS, lR u, lI 3, lI 1, lR cc1] [(.int 1), (.long (2 : Int64))])) (fun _ k => X1.arraylength hx (by rw [e1]; exact Ar6.1) (State.isArrayOf_alike hZ.alike Ar6.2.1) (g := (mkF m 30 #[lR a, lJ 2, lS, lR u, lI 3, lI 1, lR cc1] [(.ref cc1), (.long (2 : Int64))])) rfl rfl (hb hby d17_30) _ (by rw [len_of S6 M6]; exact k)) ?_
  refine Ds (B := T1.setTop (mkF m 32 #[lR a, lJ 2, lS, lR u, lI 3, lI 1, lR cc1] [(.long (1 : Int64)), (.long (2 : Int64))])) (fun _ k => XS.i2l X1.here hx rfl (hb hby d17_31) rfl k) ?_
  refine Ds (B := T1.setTop (mkF m 33 #[lR a, lJ 2, lS, lR u, lI 3, lI 1, lR cc1] [(.long (3 : Int64))])) (fun _ k => XS.ladd X1.here hx rfl (hb hby d17_32) rfl k) ?_
  refine Ds (B := T1.setTop (mkF m 34 #[lR a, lJ 3, lS, lR u, lI 3, lI 1, lR cc1] [])) (fun _ k => XS.lstoreN X1.here hx rfl (hb hby d17_33) rfl (l' := #[lR a, lJ 3, lS, lR u, lI 3, lI 1, lR cc1]) rfl k) ?_
  refine Ds (B := T1.setTop (mkF m 22 #[lR a, lJ 3, lS, lR u, lI 3, lI 2, lR cc1] [(.ref u)])) (fun _ k => XS.iinc X1.here hx rfl (hb hby d17_34) rfl (l' := #[lR a, lJ 3, lS, lR u, lI 3, lI 2, lR cc1]) rfl (XS.goto X1.here hx rfl (pc0 := 37) (pc' := 14) rfl (hb hby d17_37) (by decide) (by decide) (XS.iload X1.here hx rfl (hb hby d17_14) rfl (XS.iload X1.here hx rfl (hb hby d17_16) rfl (XS.icmpNo X1.here hx rfl (hb hby d17_18) rfl (tlt (by decide : (2 : Int32) < (3 : Int32))).2.1 (XS.aloadN X1.here hx rfl (hb hby d17_21) rfl rfl k)))))) ?_
  refine Ds (B := T1.setTop (mkF m 24 #[lR a, lJ 3, lS, lR u, lI 3, lI 2, lR cc1] [(.int 2), (.ref u)])) (fun _ k => XS.iload X1.here hx rfl (hb hby d17_22) rfl k) ?_
  obtain ⟨cl7, Ar7, q7, S7, M7, H7, G7⟩ := id Vu
  have hin7 : ¬ ((2 : Int32) < 0 ∨ cl7.slots.size ≤ ((2 : Int32)).toNatClampNeg) := inb_of S7 ⟨by decide, by decide⟩
  have hat7 : cl7.slots[((2 : Int32)).toNatClampNeg]? = some (.ref cc2) := Has.at H7 hin7 rfl
  refine Ds (B := T1.setTop (mkF m 25 #[lR a, lJ 3, lS, lR u, lI 3, lI 2, lR cc1] [(.ref cc2)])) (fun _ k => X1.aaload hx (j := (2 : Int32)) (v := (.ref cc2)) (by rw [e1]; exact Ar7.1) (State.isArrayOf_alike hZ.alike Ar7.2.1) rfl Ar7.2.2 hin7 hat7 (g := (mkF m 24 #[lR a, lJ 3, lS, lR u, lI 3, lI 2, lR cc1] [(.int 2), (.ref u)])) rfl rfl (hb hby d17_24) _ k) ?_
  refine Ds (B := T1.setTop (mkF m 27 #[lR a, lJ 3, lS, lR u, lI 3, lI 2, lR cc2] [])) (fun _ k => XS.astore X1.here hx rfl (hb hby d17_25) rfl rfl (l' := #[lR a, lJ 3, lS, lR u, lI 3, lI 2, lR cc2]) rfl k) ?_
  refine Ds (B := T1.setTop (mkF m 30 #[lR a, lJ 3, lS, lR u, lI 3, lI 2, lR cc2] [(.ref cc2), (.long (3 : Int64))])) (fun _ k => XS.lloadN X1.here hx rfl (hb hby d17_27) rfl (XS.aload X1.here hx rfl (hb hby d17_28) rfl rfl k)) ?_
  obtain ⟨cl8, Ar8, q8, S8, M8, -⟩ := id V_cc2
  refine Ds (B := T1.setTop (mkF m 31 #[lR a, lJ 3, lS, lR u, lI 3, lI 2, lR cc2] [(.int 1), (.long (3 : Int64))])) (fun _ k => X1.arraylength hx (by rw [e1]; exact Ar8.1) (State.isArrayOf_alike hZ.alike Ar8.2.1) (g := (mkF m 30 #[lR a, lJ 3, lS, lR u, lI 3, lI 2, lR cc2] [(.ref cc2), (.long (3 : Int64))])) rfl rfl (hb hby d17_30) _ (by rw [len_of S8 M8]; exact k)) ?_
  refine Ds (B := T1.setTop (mkF m 32 #[lR a, lJ 3, lS, lR u, lI 3, lI 2, lR cc2] [(.long (1 : Int64)), (.long (3 : Int64))])) (fun _ k => XS.i2l X1.here hx rfl (hb hby d17_31) rfl k) ?_
  refine Ds (B := T1.setTop (mkF m 33 #[lR a, lJ 3, lS, lR u, lI 3, lI 2, lR cc2] [(.long (4 : Int64))])) (fun _ k => XS.ladd X1.here hx rfl (hb hby d17_32) rfl k) ?_
  refine Ds (B := T1.setTop (mkF m 34 #[lR a, lJ 4, lS, lR u, lI 3, lI 2, lR cc2] [])) (fun _ k => XS.lstoreN X1.here hx rfl (hb hby d17_33) rfl (l' := #[lR a, lJ 4, lS, lR u, lI 3, lI 2, lR cc2]) rfl k) ?_
  refine Ds (B := T1.setTop (mkF m 41 #[lR a, lJ 4, lS, lR u, lI 3, lI 3, lR cc2] [(.long (4 : Int64))])) (fun _ k => XS.iinc X1.here hx rfl (hb hby d17_34) rfl (l' := #[lR a, lJ 4, lS, lR u, lI 3, lI 3, lR cc2]) rfl (XS.goto X1.here hx rfl (pc0 := 37) (pc' := 14) rfl (hb hby d17_37) (by decide) (by decide) (XS.iload X1.here hx rfl (hb hby d17_14) rfl (XS.iload X1.here hx rfl (hb hby d17_16) rfl (XS.icmpYes X1.here hx rfl (pc0 := 18) (pc' := 40) rfl (hb hby d17_18) rfl (flt (by decide : ¬ ((3 : Int32) < (3 : Int32)))).2.1 (by decide) (by decide) (XS.lloadN X1.here hx rfl (hb hby d17_40) rfl k)))))) ?_
  obtain ⟨fs, hr, hrun, hended, hW, hsame⟩ := X1.leave (v := some (.long (4 : Int64))) (hlocks := hlk) (fun h => by rw [Bd.returns] at h; cases h)
  refine Done.fin (retJ X1 hx Bd.returns (hb hby d17_41) hr) hrun hended ⟨_, _, rfl, ?_, ⟨_, rfl⟩, hW, hsame.mono (by decide) (by decide)⟩
  show Qrm17 Z a u ku cc0 cc1 cc2 kel0 kel1 kel2 va vb vc vd h0 n0 _ T1.heap _
  rw [e1]
  exact ⟨rfl, N0, rfl⟩
theorem ef_rm18 (m : MethodId) (a : Addr) : entryFrame m #[(.ref a)] 1 = mkF m 0 #[lR a] [] := by first | (simp [entryFrame, mkF, argsToLocals, Value.category]; done) | rfl
def Qrm18 (Z : State) (a : Addr) (u : Addr) (ku : ClassId) (us : List Value) (h0 : Heap) (n0 : Nat) (v : Option Value) (h : Heap) (L : List Loc) : Prop := v = some (.int 3) ∧ Fr n0 L ∧ h = h0
def Prm18 (s : State) (Z : State) (a : Addr) (u : Addr) (ku : ClassId) (us : List Value) (h0 : Heap) (n0 : Nat) : State → Outcome → Prop := fun U' o => ∃ v L, o = .returned v ∧ Qrm18 Z a u ku us h0 n0 v U'.heap L ∧ FrameEnd s o U' L ({ frames := 0, cells := 0, slots := 0, locals := 0 } : Room).cells ({ frames := 0, cells := 0, slots := 0, locals := 0 } : Room).slots
set_option maxRecDepth 65536 in
set_option maxHeartbeats 40000000 in
theorem rm18 (l : Launch) (Z : State) (a0 : Array Value) (hw : ∀ d ∈ tables_1, d.before a0 Z = true) (ws : List Jvm.Cond) (a : Addr) (u : Addr) (ku : ClassId) (us : List Value) (h0 : Heap) (n0 : Nat) (Z0 : n0 ≤ h0.size) (Fa : Fld Z h0 a "com/example/percurso/percurso/suite/Suite" "tests" "[[I" (.ref u)) (Vu : Arv Z h0 u ku (.array .int) (3 : Int32) us .null) :
    MetFree l (⟨"com/example/percurso/percurso/suite/Suite", "testCount", "()I"⟩ : MethodName) (head1 (Jvm.Cond.code (⟨"com/example/percurso/percurso/suite/Suite", "testCount", "()I"⟩ : MethodName) prog_193_method_3_code 1 (some .int) :: ws) ({ frames := 0, cells := 0, slots := 0, locals := 0 } : Room)) (fun aa U => aa = #[(.ref a)] ∧ Z.Warmed39 U.vm ∧ U.heap = h0) (fun _ _ _ _ _ => True) (fun _ U o U' => ∃ v L, o = .returned v ∧ Qrm18 Z a u ku us h0 n0 v U'.heap L ∧ FrameEnd U o U' L ({ frames := 0, cells := 0, slots := 0, locals := 0 } : Room).cells ({ frames := 0, cells := 0, slots := 0, locals := 0 } : Room).slots) := by
  refine MetFree.of_bodySF (plainFor_of_name pn_5) hisR ?_
  intro p e s m args below meth c s₁ Bd hml0 hP hK
  obtain ⟨rfl, hZ, hh⟩ := hP
  have hx := Bd.exec
  have hlk : meth.locks = false := by first | exact BodyLoose.notSynchronized Bd | exact Body.notSynchronized Bd
  have hby := Bd.bytes
  have hml : c.maxLocals = 1 := hml0
  have hown : s.vm.findClass "com/example/percurso/percurso/suite/Suite" = some m.cls := findClass_of_methodNamed Bd.named
  have hnm := (name_of_methodNamed Bd.named Bd.method).1
  have X0 : Stand p l e ({ frames := 0, cells := 0, slots := 0, locals := 0 } : Room) s m #[(.ref a)] below meth c s₁ [] 0 0 := Stand.of_body Bd
  have e0 : s₁.heap = h0 := by rw [← hh, Bd.state]; rfl
  have N0 := Fr.nil n0
  show Done p e below (Prm18 s Z a u ku us h0 n0) (s₁.setTop (entryFrame m #[(.ref a)] 1))
  refine Ds (B := s₁.setTop (mkF m 0 #[lR a] [])) (fun _ k => castTop (ef_rm18 m a) k) ?_
  refine Ds (B := s₁.setTop (mkF m 1 #[lR a] [(.ref a)])) (fun _ k => XS.aloadN X0.here hx rfl (hb hby d18_0) rfl rfl k) ?_
  obtain ⟨T1, X1, e1, st1⟩ := getF X0 hx hZ hown (host := "") (Or.inl (hw _ mm79)) Via.refl e0 Fa (g := (mkF m 1 #[lR a] [(.ref a)])) rfl rfl (hb hby d18_1)
  refine Ds (B := T1.setTop (mkF m 4 #[lR a] [(.ref u)])) (fun _ k => st1 _ k) ?_
  obtain ⟨cl2, Ar2, q2, S2, M2, -⟩ := id Vu
  refine Ds (B := T1.setTop (mkF m 5 #[lR a] [(.int 3)])) (fun _ k => X1.arraylength hx (by rw [e1]; exact Ar2.1) (State.isArrayOf_alike hZ.alike Ar2.2.1) (g := (mkF m 4 #[lR a] [(.ref u)])) rfl rfl (hb hby d18_4) _ (by rw [len_of S2 M2]; exact k)) ?_
  obtain ⟨fs, hr, hrun, hended, hW, hsame⟩ := X1.leave (v := some (.int 3)) (hlocks := hlk) (fun h => by rw [Bd.returns] at h; cases h)
  refine Done.fin (retI X1 hx Bd.returns (hb hby d18_5) hr) hrun hended ⟨_, _, rfl, ?_, ⟨_, rfl⟩, hW, hsame.mono (by decide) (by decide)⟩
  show Qrm18 Z a u ku us h0 n0 _ T1.heap _
  rw [e1]
  exact ⟨rfl, N0, rfl⟩
theorem ef_rm19 (m : MethodId) (a : Addr) (i : Int32) : entryFrame m #[(.ref a), (.int i)] 2 = mkF m 0 #[lR a, lI i] [] := by first | (simp [entryFrame, mkF, argsToLocals, Value.category]; done) | rfl
def Qrm19 (Z : State) (a : Addr) (i : Int32) (u : Addr) (ku : ClassId) (us : List Value) (cc : Addr) (kcc : ClassId) (ln : Int32) (ci : List Value) (h0 : Heap) (n0 : Nat) (v : Option Value) (h : Heap) (L : List Loc) : Prop := v = some (.int ln) ∧ Fr n0 L ∧ h = h0
def Prm19 (s : State) (Z : State) (a : Addr) (i : Int32) (u : Addr) (ku : ClassId) (us : List Value) (cc : Addr) (kcc : ClassId) (ln : Int32) (ci : List Value) (h0 : Heap) (n0 : Nat) : State → Outcome → Prop := fun U' o => ∃ v L, o = .returned v ∧ Qrm19 Z a i u ku us cc kcc ln ci h0 n0 v U'.heap L ∧ FrameEnd s o U' L ({ frames := 0, cells := 0, slots := 0, locals := 0 } : Room).cells ({ frames := 0, cells := 0, slots := 0, locals := 0 } : Room).slots
set_option maxRecDepth 65536 in
set_option maxHeartbeats 40000000 in
theorem rm19 (l : Launch) (Z : State) (a0 : Array Value) (hw : ∀ d ∈ tables_1, d.before a0 Z = true) (ws : List Jvm.Cond) (a : Addr) (i : Int32) (u : Addr) (ku : ClassId) (us : List Value) (cc : Addr) (kcc : ClassId) (ln : Int32) (ci : List Value) (h0 : Heap) (n0 : Nat) (Z0 : n0 ≤ h0.size) (Fa : Fld Z h0 a "com/example/percurso/percurso/suite/Suite" "tests" "[[I" (.ref u)) (Vu : Arv Z h0 u ku (.array .int) (3 : Int32) us .null) (hi : ¬ i < 0 ∧ i < (3 : Int32)) (hv : us.getD i.toNatClampNeg .null = .ref cc) (Vc : Arv Z h0 cc kcc .int ln ci (.int 0)) :
    MetFree l (⟨"com/example/percurso/percurso/suite/Suite", "length", "(I)I"⟩ : MethodName) (head1 (Jvm.Cond.code (⟨"com/example/percurso/percurso/suite/Suite", "length", "(I)I"⟩ : MethodName) prog_193_method_4_code 2 (some .int) :: ws) ({ frames := 0, cells := 0, slots := 0, locals := 0 } : Room)) (fun aa U => aa = #[(.ref a), (.int i)] ∧ Z.Warmed39 U.vm ∧ U.heap = h0) (fun _ _ _ _ _ => True) (fun _ U o U' => ∃ v L, o = .returned v ∧ Qrm19 Z a i u ku us cc kcc ln ci h0 n0 v U'.heap L ∧ FrameEnd U o U' L ({ frames := 0, cells := 0, slots := 0, locals := 0 } : Room).cells ({ frames := 0, cells := 0, slots := 0, locals := 0 } : Room).slots) := by
  refine MetFree.of_bodySF (plainFor_of_name pn_5) hisR ?_
  intro p e s m args below meth c s₁ Bd hml0 hP hK
  obtain ⟨rfl, hZ, hh⟩ := hP
  have hx := Bd.exec
  have hlk : meth.locks = false := by first | exact BodyLoose.notSynchronized Bd | exact Body.notSynchronized Bd
  have hby := Bd.bytes
  have hml : c.maxLocals = 2 := hml0
  have hown : s.vm.findClass "com/example/percurso/percurso/suite/Suite" = some m.cls := findClass_of_methodNamed Bd.named
  have hnm := (name_of_methodNamed Bd.named Bd.method).1
  have X0 : Stand p l e ({ frames := 0, cells := 0, slots := 0, locals := 0 } : Room) s m #[(.ref a), (.int i)] below meth c s₁ [] 0 0 := Stand.of_body Bd
  have e0 : s₁.heap = h0 := by rw [← hh, Bd.state]; rfl
  have N0 := Fr.nil n0
  show Done p e below (Prm19 s Z a i u ku us cc kcc ln ci h0 n0) (s₁.setTop (entryFrame m #[(.ref a), (.int i)] 2))
  refine Ds (B := s₁.setTop (mkF m 0 #[lR a, lI i] [])) (fun _ k => castTop (ef_rm19 m a i) k) ?_
  refine Ds (B := s₁.setTop (mkF m 1 #[lR a, lI i] [(.ref a)])) (fun _ k => XS.aloadN X0.here hx rfl (hb hby d19_0) rfl rfl k) ?_
  obtain ⟨T1, X1, e1, st1⟩ := getF X0 hx hZ hown (host := "") (Or.inl (hw _ mm79)) Via.refl e0 Fa (g := (mkF m 1 #[lR a, lI i] [(.ref a)])) rfl rfl (hb hby d19_1)
  refine Ds (B := T1.setTop (mkF m 4 #[lR a, lI i] [(.ref u)])) (fun _ k => st1 _ k) ?_
  refine Ds (B := T1.setTop (mkF m 5 #[lR a, lI i] [(.int i), (.ref u)])) (fun _ k => XS.iloadN X1.here hx rfl (hb hby d19_4) rfl k) ?_
  obtain ⟨cl2, Ar2, q2, S2, M2, H2, G2⟩ := id Vu
  have hin2 : ¬ (i < 0 ∨ cl2.slots.size ≤ (i).toNatClampNeg) := inb_of S2 hi
  have hat2 : cl2.slots[(i).toNatClampNeg]? = some (.ref cc) := Has.at H2 hin2 hv
  refine Ds (B := T1.setTop (mkF m 6 #[lR a, lI i] [(.ref cc)])) (fun _ k => X1.aaload hx (j := i) (v := (.ref cc)) (by rw [e1]; exact Ar2.1) (State.isArrayOf_alike hZ.alike Ar2.2.1) rfl Ar2.2.2 hin2 hat2 (g := (mkF m 5 #[lR a, lI i] [(.int i), (.ref u)])) rfl rfl (hb hby d19_5) _ k) ?_
  obtain ⟨cl3, Ar3, q3, S3, M3, -⟩ := id Vc
  refine Ds (B := T1.setTop (mkF m 7 #[lR a, lI i] [(.int ln)])) (fun _ k => X1.arraylength hx (by rw [e1]; exact Ar3.1) (State.isArrayOf_alike hZ.alike Ar3.2.1) (g := (mkF m 6 #[lR a, lI i] [(.ref cc)])) rfl rfl (hb hby d19_6) _ (by rw [len_of S3 M3]; exact k)) ?_
  obtain ⟨fs, hr, hrun, hended, hW, hsame⟩ := X1.leave (v := some (.int ln)) (hlocks := hlk) (fun h => by rw [Bd.returns] at h; cases h)
  refine Done.fin (retI X1 hx Bd.returns (hb hby d19_7) hr) hrun hended ⟨_, _, rfl, ?_, ⟨_, rfl⟩, hW, hsame.mono (by decide) (by decide)⟩
  show Qrm19 Z a i u ku us cc kcc ln ci h0 n0 _ T1.heap _
  rw [e1]
  exact ⟨rfl, N0, rfl⟩
theorem ef_rm20 (m : MethodId) (a : Addr) (i : Int32) (j : Int32) : entryFrame m #[(.ref a), (.int i), (.int j)] 3 = mkF m 0 #[lR a, lI i, lI j] [] := by first | (simp [entryFrame, mkF, argsToLocals, Value.category]; done) | rfl
def Qrm20 (Z : State) (a : Addr) (i : Int32) (j : Int32) (u : Addr) (ku : ClassId) (us : List Value) (cc : Addr) (kcc : ClassId) (ln : Int32) (ci : List Value) (xv : Int32) (h0 : Heap) (n0 : Nat) (v : Option Value) (h : Heap) (L : List Loc) : Prop := v = some (.int xv) ∧ Fr n0 L ∧ h = h0
def Prm20 (s : State) (Z : State) (a : Addr) (i : Int32) (j : Int32) (u : Addr) (ku : ClassId) (us : List Value) (cc : Addr) (kcc : ClassId) (ln : Int32) (ci : List Value) (xv : Int32) (h0 : Heap) (n0 : Nat) : State → Outcome → Prop := fun U' o => ∃ v L, o = .returned v ∧ Qrm20 Z a i j u ku us cc kcc ln ci xv h0 n0 v U'.heap L ∧ FrameEnd s o U' L ({ frames := 0, cells := 0, slots := 0, locals := 0 } : Room).cells ({ frames := 0, cells := 0, slots := 0, locals := 0 } : Room).slots
set_option maxRecDepth 65536 in
set_option maxHeartbeats 40000000 in
theorem rm20 (l : Launch) (Z : State) (a0 : Array Value) (hw : ∀ d ∈ tables_1, d.before a0 Z = true) (ws : List Jvm.Cond) (a : Addr) (i : Int32) (j : Int32) (u : Addr) (ku : ClassId) (us : List Value) (cc : Addr) (kcc : ClassId) (ln : Int32) (ci : List Value) (xv : Int32) (h0 : Heap) (n0 : Nat) (Z0 : n0 ≤ h0.size) (Fa : Fld Z h0 a "com/example/percurso/percurso/suite/Suite" "tests" "[[I" (.ref u)) (Vu : Arv Z h0 u ku (.array .int) (3 : Int32) us .null) (hi : ¬ i < 0 ∧ i < (3 : Int32)) (hv : us.getD i.toNatClampNeg .null = .ref cc) (Vc : Arv Z h0 cc kcc .int ln ci (.int 0)) (hj : ¬ j < 0 ∧ j < ln) (hu : ci.getD j.toNatClampNeg (.int 0) = .int xv) :
    MetFree l (⟨"com/example/percurso/percurso/suite/Suite", "input", "(II)I"⟩ : MethodName) (head1 (Jvm.Cond.code (⟨"com/example/percurso/percurso/suite/Suite", "input", "(II)I"⟩ : MethodName) prog_193_method_6_code 3 (some .int) :: ws) ({ frames := 0, cells := 0, slots := 0, locals := 0 } : Room)) (fun aa U => aa = #[(.ref a), (.int i), (.int j)] ∧ Z.Warmed39 U.vm ∧ U.heap = h0) (fun _ _ _ _ _ => True) (fun _ U o U' => ∃ v L, o = .returned v ∧ Qrm20 Z a i j u ku us cc kcc ln ci xv h0 n0 v U'.heap L ∧ FrameEnd U o U' L ({ frames := 0, cells := 0, slots := 0, locals := 0 } : Room).cells ({ frames := 0, cells := 0, slots := 0, locals := 0 } : Room).slots) := by
  refine MetFree.of_bodySF (plainFor_of_name pn_5) hisR ?_
  intro p e s m args below meth c s₁ Bd hml0 hP hK
  obtain ⟨rfl, hZ, hh⟩ := hP
  have hx := Bd.exec
  have hlk : meth.locks = false := by first | exact BodyLoose.notSynchronized Bd | exact Body.notSynchronized Bd
  have hby := Bd.bytes
  have hml : c.maxLocals = 3 := hml0
  have hown : s.vm.findClass "com/example/percurso/percurso/suite/Suite" = some m.cls := findClass_of_methodNamed Bd.named
  have hnm := (name_of_methodNamed Bd.named Bd.method).1
  have X0 : Stand p l e ({ frames := 0, cells := 0, slots := 0, locals := 0 } : Room) s m #[(.ref a), (.int i), (.int j)] below meth c s₁ [] 0 0 := Stand.of_body Bd
  have e0 : s₁.heap = h0 := by rw [← hh, Bd.state]; rfl
  have N0 := Fr.nil n0
  show Done p e below (Prm20 s Z a i j u ku us cc kcc ln ci xv h0 n0) (s₁.setTop (entryFrame m #[(.ref a), (.int i), (.int j)] 3))
  refine Ds (B := s₁.setTop (mkF m 0 #[lR a, lI i, lI j] [])) (fun _ k => castTop (ef_rm20 m a i j) k) ?_
  refine Ds (B := s₁.setTop (mkF m 1 #[lR a, lI i, lI j] [(.ref a)])) (fun _ k => XS.aloadN X0.here hx rfl (hb hby d20_0) rfl rfl k) ?_
  obtain ⟨T1, X1, e1, st1⟩ := getF X0 hx hZ hown (host := "") (Or.inl (hw _ mm79)) Via.refl e0 Fa (g := (mkF m 1 #[lR a, lI i, lI j] [(.ref a)])) rfl rfl (hb hby d20_1)
  refine Ds (B := T1.setTop (mkF m 4 #[lR a, lI i, lI j] [(.ref u)])) (fun _ k => st1 _ k) ?_
  refine Ds (B := T1.setTop (mkF m 5 #[lR a, lI i, lI j] [(.int i), (.ref u)])) (fun _ k => XS.iloadN X1.here hx rfl (hb hby d20_4) rfl k) ?_
  obtain ⟨cl2, Ar2, q2, S2, M2, H2, G2⟩ := id Vu
  have hin2 : ¬ (i < 0 ∨ cl2.slots.size ≤ (i).toNatClampNeg) := inb_of S2 hi
  have hat2 : cl2.slots[(i).toNatClampNeg]? = some (.ref cc) := Has.at H2 hin2 hv
  refine Ds (B := T1.setTop (mkF m 6 #[lR a, lI i, lI j] [(.ref cc)])) (fun _ k => X1.aaload hx (j := i) (v := (.ref cc)) (by rw [e1]; exact Ar2.1) (State.isArrayOf_alike hZ.alike Ar2.2.1) rfl Ar2.2.2 hin2 hat2 (g := (mkF m 5 #[lR a, lI i, lI j] [(.int i), (.ref u)])) rfl rfl (hb hby d20_5) _ k) ?_
  refine Ds (B := T1.setTop (mkF m 7 #[lR a, lI i, lI j] [(.int j), (.ref cc)])) (fun _ k => XS.iloadN X1.here hx rfl (hb hby d20_6) rfl k) ?_
  obtain ⟨cl3, Ar3, q3, S3, M3, H3, G3⟩ := id Vc
  have hin3 : ¬ (j < 0 ∨ cl3.slots.size ≤ (j).toNatClampNeg) := inb_of S3 hj
  have hat3 : cl3.slots[(j).toNatClampNeg]? = some (.int xv) := Has.at H3 hin3 hu
  refine Ds (B := T1.setTop (mkF m 8 #[lR a, lI i, lI j] [(.int xv)])) (fun _ k => X1.iaload hx (j := j) (v := (.int xv)) (by rw [e1]; exact Ar3.1) (State.isArrayOf_alike hZ.alike Ar3.2.1) Ar3.2.2 hin3 hat3 (g := (mkF m 7 #[lR a, lI i, lI j] [(.int j), (.ref cc)])) rfl rfl (hb hby d20_7) _ k) ?_
  obtain ⟨fs, hr, hrun, hended, hW, hsame⟩ := X1.leave (v := some (.int xv)) (hlocks := hlk) (fun h => by rw [Bd.returns] at h; cases h)
  refine Done.fin (retI X1 hx Bd.returns (hb hby d20_8) hr) hrun hended ⟨_, _, rfl, ?_, ⟨_, rfl⟩, hW, hsame.mono (by decide) (by decide)⟩
  show Qrm20 Z a i j u ku us cc kcc ln ci xv h0 n0 _ T1.heap _
  rw [e1]
  exact ⟨rfl, N0, rfl⟩
theorem ef_rmCH_0 (m : MethodId) (a : Addr) (nd : Int32) (x : Int32) : entryFrame m #[(.ref a), (.int nd), (.int x)] 4 = mkF m 0 #[lR a, lI nd, lI x, lU] [] := by first | (simp [entryFrame, mkF, argsToLocals, Value.category]; done) | rfl
def QrmCH_0 (Z : State) (a : Addr) (nd : Int32) (x : Int32) (ui : Addr) (kui : ClassId) (vi : List Value) (uf : Addr) (kuf : ClassId) (vf : List Value) (un : Addr) (kun : ClassId) (vn : List Value) (h0 : Heap) (n0 : Nat) (v : Option Value) (h : Heap) (L : List Loc) : Prop := v = some (.int (own_find [] x)) ∧ Fr n0 L ∧ h = h0
def PrmCH_0 (s : State) (Z : State) (a : Addr) (nd : Int32) (x : Int32) (ui : Addr) (kui : ClassId) (vi : List Value) (uf : Addr) (kuf : ClassId) (vf : List Value) (un : Addr) (kun : ClassId) (vn : List Value) (h0 : Heap) (n0 : Nat) : State → Outcome → Prop := fun U' o => ∃ v L, o = .returned v ∧ QrmCH_0 Z a nd x ui kui vi uf kuf vf un kun vn h0 n0 v U'.heap L ∧ FrameEnd s o U' L ({ frames := 0, cells := 0, slots := 0, locals := 0 } : Room).cells ({ frames := 0, cells := 0, slots := 0, locals := 0 } : Room).slots
set_option maxRecDepth 65536 in
set_option maxHeartbeats 40000000 in
theorem rmCH_0 (l : Launch) (Z : State) (a0 : Array Value) (hw : ∀ d ∈ tables_1, d.before a0 Z = true) (ws : List Jvm.Cond) (a : Addr) (nd : Int32) (x : Int32) (ui : Addr) (kui : ClassId) (vi : List Value) (uf : Addr) (kuf : ClassId) (vf : List Value) (un : Addr) (kun : ClassId) (vn : List Value) (h0 : Heap) (n0 : Nat) (Z0 : n0 ≤ h0.size) (Fi : Fld Z h0 a "com/example/percurso/percurso/suite/PrefixTree" "inputs" "[I" (.ref ui)) (Ff : Fld Z h0 a "com/example/percurso/percurso/suite/PrefixTree" "firstChildren" "[I" (.ref uf)) (Fn : Fld Z h0 a "com/example/percurso/percurso/suite/PrefixTree" "nextSiblings" "[I" (.ref un)) (Vi : Arv Z h0 ui kui .int 5 vi (.int 0)) (Vf : Arv Z h0 uf kuf .int 5 vf (.int 0)) (Vn : Arv Z h0 un kun .int 5 vn (.int 0)) (hbd : ¬ nd < 0 ∧ nd < 5) (hf : vf.getD nd.toNatClampNeg (.int 0) = .int (-1)) :
    MetFree l (⟨"com/example/percurso/percurso/suite/PrefixTree", "child", "(II)I"⟩ : MethodName) (head1 (Jvm.Cond.code (⟨"com/example/percurso/percurso/suite/PrefixTree", "child", "(II)I"⟩ : MethodName) prog_191_method_9_code 4 (some .int) :: ws) ({ frames := 0, cells := 0, slots := 0, locals := 0 } : Room)) (fun aa U => aa = #[(.ref a), (.int nd), (.int x)] ∧ Z.Warmed39 U.vm ∧ U.heap = h0) (fun _ _ _ _ _ => True) (fun _ U o U' => ∃ v L, o = .returned v ∧ QrmCH_0 Z a nd x ui kui vi uf kuf vf un kun vn h0 n0 v U'.heap L ∧ FrameEnd U o U' L ({ frames := 0, cells := 0, slots := 0, locals := 0 } : Room).cells ({ frames := 0, cells := 0, slots := 0, locals := 0 } : Room).slots) := by
  refine MetFree.of_bodySF (plainFor_of_name pn_6) hisR ?_
  intro p e s m args below meth c s₁ Bd hml0 hP hK
  obtain ⟨rfl, hZ, hh⟩ := hP
  have hx := Bd.exec
  have hlk : meth.locks = false := by first | exact BodyLoose.notSynchronized Bd | exact Body.notSynchronized Bd
  have hby := Bd.bytes
  have hml : c.maxLocals = 4 := hml0
  have hown : s.vm.findClass "com/example/percurso/percurso/suite/PrefixTree" = some m.cls := findClass_of_methodNamed Bd.named
  have hnm := (name_of_methodNamed Bd.named Bd.method).1
  have X0 : Stand p l e ({ frames := 0, cells := 0, slots := 0, locals := 0 } : Room) s m #[(.ref a), (.int nd), (.int x)] below meth c s₁ [] 0 0 := Stand.of_body Bd
  have e0 : s₁.heap = h0 := by rw [← hh, Bd.state]; rfl
  have N0 := Fr.nil n0
  show Done p e below (PrmCH_0 s Z a nd x ui kui vi uf kuf vf un kun vn h0 n0) (s₁.setTop (entryFrame m #[(.ref a), (.int nd), (.int x)] 4))
  refine Ds (B := s₁.setTop (mkF m 0 #[lR a, lI nd, lI x, lU] [])) (fun _ k => castTop (ef_rmCH_0 m a nd x) k) ?_
  refine Ds (B := s₁.setTop (mkF m 1 #[lR a, lI nd, lI x, lU] [(.ref a)])) (fun _ k => XS.aloadN X0.here hx rfl (hb hby d21_0) rfl rfl k) ?_
  obtain ⟨T1, X1, e1, st1⟩ := getF X0 hx hZ hown (host := "") (Or.inl (hw _ mm126)) Via.refl e0 Ff (g := (mkF m 1 #[lR a, lI nd, lI x, lU] [(.ref a)])) rfl rfl (hb hby d21_1)
  refine Ds (B := T1.setTop (mkF m 4 #[lR a, lI nd, lI x, lU] [(.ref uf)])) (fun _ k => st1 _ k) ?_
  refine Ds (B := T1.setTop (mkF m 5 #[lR a, lI nd, lI x, lU] [(.int nd), (.ref uf)])) (fun _ k => XS.iloadN X1.here hx rfl (hb hby d21_4) rfl k) ?_
  obtain ⟨cl2, Ar2, q2, S2, M2, H2, G2⟩ := id Vf
  have hin2 : ¬ (nd < 0 ∨ cl2.slots.size ≤ (nd).toNatClampNeg) := inb_of S2 hbd
  have hat2 : cl2.slots[(nd).toNatClampNeg]? = some (.int (-1)) := Has.at H2 hin2 hf
  refine Ds (B := T1.setTop (mkF m 6 #[lR a, lI nd, lI x, lU] [(.int (-1))])) (fun _ k => X1.iaload hx (j := nd) (v := (.int (-1))) (by rw [e1]; exact Ar2.1) (State.isArrayOf_alike hZ.alike Ar2.2.1) Ar2.2.2 hin2 hat2 (g := (mkF m 5 #[lR a, lI nd, lI x, lU] [(.int nd), (.ref uf)])) rfl rfl (hb hby d21_5) _ k) ?_
  refine Ds (B := T1.setTop (mkF m 49 #[lR a, lI nd, lI x, lI (-1)] [(.int (-1))])) (fun _ k => XS.istoreN X1.here hx rfl (hb hby d21_6) rfl (l' := #[lR a, lI nd, lI x, lI (-1)]) rfl (XS.iloadN X1.here hx rfl (hb hby d21_7) rfl (XS.iconst X1.here hx rfl (hb hby d21_8) (XS.icmpYes X1.here hx rfl (pc0 := 9) (pc' := 48) rfl (hb hby d21_9) rfl (teq (rfl : (-1 : Int32) = (-1 : Int32))).1 (by decide) (by decide) (XS.iconst X1.here hx rfl (hb hby d21_48) k))))) ?_
  obtain ⟨fs, hr, hrun, hended, hW, hsame⟩ := X1.leave (v := some (.int (-1))) (hlocks := hlk) (fun h => by rw [Bd.returns] at h; cases h)
  refine Done.fin (retI X1 hx Bd.returns (hb hby d21_49) hr) hrun hended ⟨_, _, rfl, ?_, ⟨_, rfl⟩, hW, hsame.mono (by decide) (by decide)⟩
  show QrmCH_0 Z a nd x ui kui vi uf kuf vf un kun vn h0 n0 _ T1.heap _
  rw [e1]
  exact ⟨congrArg (fun z => some (Value.int z)) (Eq.symm rfl), N0, rfl⟩
theorem ef_rmCH_1 (m : MethodId) (a : Addr) (nd : Int32) (x : Int32) : entryFrame m #[(.ref a), (.int nd), (.int x)] 4 = mkF m 0 #[lR a, lI nd, lI x, lU] [] := by first | (simp [entryFrame, mkF, argsToLocals, Value.category]; done) | rfl
def QrmCH_1 (Z : State) (a : Addr) (nd : Int32) (x : Int32) (ui : Addr) (kui : ClassId) (vi : List Value) (uf : Addr) (kuf : ClassId) (vf : List Value) (un : Addr) (kun : ClassId) (vn : List Value) (ch1 : Int32) (cv1 : Int32) (h0 : Heap) (n0 : Nat) (v : Option Value) (h : Heap) (L : List Loc) : Prop := v = some (.int (own_find [(ch1, cv1)] x)) ∧ Fr n0 L ∧ h = h0
def PrmCH_1 (s : State) (Z : State) (a : Addr) (nd : Int32) (x : Int32) (ui : Addr) (kui : ClassId) (vi : List Value) (uf : Addr) (kuf : ClassId) (vf : List Value) (un : Addr) (kun : ClassId) (vn : List Value) (ch1 : Int32) (cv1 : Int32) (h0 : Heap) (n0 : Nat) : State → Outcome → Prop := fun U' o => ∃ v L, o = .returned v ∧ QrmCH_1 Z a nd x ui kui vi uf kuf vf un kun vn ch1 cv1 h0 n0 v U'.heap L ∧ FrameEnd s o U' L ({ frames := 0, cells := 0, slots := 0, locals := 0 } : Room).cells ({ frames := 0, cells := 0, slots := 0, locals := 0 } : Room).slots
set_option maxRecDepth 65536 in
set_option maxHeartbeats 40000000 in
theorem rmCH_1 (l : Launch) (Z : State) (a0 : Array Value) (hw : ∀ d ∈ tables_1, d.before a0 Z = true) (ws : List Jvm.Cond) (a : Addr) (nd : Int32) (x : Int32) (ui : Addr) (kui : ClassId) (vi : List Value) (uf : Addr) (kuf : ClassId) (vf : List Value) (un : Addr) (kun : ClassId) (vn : List Value) (ch1 : Int32) (cv1 : Int32) (h0 : Heap) (n0 : Nat) (Z0 : n0 ≤ h0.size) (Fi : Fld Z h0 a "com/example/percurso/percurso/suite/PrefixTree" "inputs" "[I" (.ref ui)) (Ff : Fld Z h0 a "com/example/percurso/percurso/suite/PrefixTree" "firstChildren" "[I" (.ref uf)) (Fn : Fld Z h0 a "com/example/percurso/percurso/suite/PrefixTree" "nextSiblings" "[I" (.ref un)) (Vi : Arv Z h0 ui kui .int 5 vi (.int 0)) (Vf : Arv Z h0 uf kuf .int 5 vf (.int 0)) (Vn : Arv Z h0 un kun .int 5 vn (.int 0)) (hbd : ¬ nd < 0 ∧ nd < 5) (hf : vf.getD nd.toNatClampNeg (.int 0) = .int ch1) (hb_0 : ¬ ch1 < 0 ∧ ch1 < 5) (hi_0 : vi.getD ch1.toNatClampNeg (.int 0) = .int cv1) (hn_0 : vn.getD ch1.toNatClampNeg (.int 0) = .int (-1)) :
    MetFree l (⟨"com/example/percurso/percurso/suite/PrefixTree", "child", "(II)I"⟩ : MethodName) (head1 (Jvm.Cond.code (⟨"com/example/percurso/percurso/suite/PrefixTree", "child", "(II)I"⟩ : MethodName) prog_191_method_9_code 4 (some .int) :: ws) ({ frames := 0, cells := 0, slots := 0, locals := 0 } : Room)) (fun aa U => aa = #[(.ref a), (.int nd), (.int x)] ∧ Z.Warmed39 U.vm ∧ U.heap = h0) (fun _ _ _ _ _ => True) (fun _ U o U' => ∃ v L, o = .returned v ∧ QrmCH_1 Z a nd x ui kui vi uf kuf vf un kun vn ch1 cv1 h0 n0 v U'.heap L ∧ FrameEnd U o U' L ({ frames := 0, cells := 0, slots := 0, locals := 0 } : Room).cells ({ frames := 0, cells := 0, slots := 0, locals := 0 } : Room).slots) := by
  refine MetFree.of_bodySF (plainFor_of_name pn_6) hisR ?_
  intro p e s m args below meth c s₁ Bd hml0 hP hK
  obtain ⟨rfl, hZ, hh⟩ := hP
  have hx := Bd.exec
  have hlk : meth.locks = false := by first | exact BodyLoose.notSynchronized Bd | exact Body.notSynchronized Bd
  have hby := Bd.bytes
  have hml : c.maxLocals = 4 := hml0
  have hown : s.vm.findClass "com/example/percurso/percurso/suite/PrefixTree" = some m.cls := findClass_of_methodNamed Bd.named
  have hnm := (name_of_methodNamed Bd.named Bd.method).1
  have X0 : Stand p l e ({ frames := 0, cells := 0, slots := 0, locals := 0 } : Room) s m #[(.ref a), (.int nd), (.int x)] below meth c s₁ [] 0 0 := Stand.of_body Bd
  have e0 : s₁.heap = h0 := by rw [← hh, Bd.state]; rfl
  have N0 := Fr.nil n0
  show Done p e below (PrmCH_1 s Z a nd x ui kui vi uf kuf vf un kun vn ch1 cv1 h0 n0) (s₁.setTop (entryFrame m #[(.ref a), (.int nd), (.int x)] 4))
  refine Ds (B := s₁.setTop (mkF m 0 #[lR a, lI nd, lI x, lU] [])) (fun _ k => castTop (ef_rmCH_1 m a nd x) k) ?_
  refine Ds (B := s₁.setTop (mkF m 1 #[lR a, lI nd, lI x, lU] [(.ref a)])) (fun _ k => XS.aloadN X0.here hx rfl (hb hby d21_0) rfl rfl k) ?_
  obtain ⟨T1, X1, e1, st1⟩ := getF X0 hx hZ hown (host := "") (Or.inl (hw _ mm126)) Via.refl e0 Ff (g := (mkF m 1 #[lR a, lI nd, lI x, lU] [(.ref a)])) rfl rfl (hb hby d21_1)
  refine Ds (B := T1.setTop (mkF m 4 #[lR a, lI nd, lI x, lU] [(.ref uf)])) (fun _ k => st1 _ k) ?_
  refine Ds (B := T1.setTop (mkF m 5 #[lR a, lI nd, lI x, lU] [(.int nd), (.ref uf)])) (fun _ k => XS.iloadN X1.here hx rfl (hb hby d21_4) rfl k) ?_
  obtain ⟨cl2, Ar2, q2, S2, M2, H2, G2⟩ := id Vf
  have hin2 : ¬ (nd < 0 ∨ cl2.slots.size ≤ (nd).toNatClampNeg) := inb_of S2 hbd
  have hat2 : cl2.slots[(nd).toNatClampNeg]? = some (.int ch1) := Has.at H2 hin2 hf
  refine Ds (B := T1.setTop (mkF m 6 #[lR a, lI nd, lI x, lU] [(.int ch1)])) (fun _ k => X1.iaload hx (j := nd) (v := (.int ch1)) (by rw [e1]; exact Ar2.1) (State.isArrayOf_alike hZ.alike Ar2.2.1) Ar2.2.2 hin2 hat2 (g := (mkF m 5 #[lR a, lI nd, lI x, lU] [(.int nd), (.ref uf)])) rfl rfl (hb hby d21_5) _ k) ?_
  refine Ds (B := T1.setTop (mkF m 13 #[lR a, lI nd, lI x, lI ch1] [(.ref a)])) (fun _ k => XS.istoreN X1.here hx rfl (hb hby d21_6) rfl (l' := #[lR a, lI nd, lI x, lI ch1]) rfl (XS.iloadN X1.here hx rfl (hb hby d21_7) rfl (XS.iconst X1.here hx rfl (hb hby d21_8) (XS.icmpNo X1.here hx rfl (hb hby d21_9) rfl (feq (own_nm1 hb_0)).1 (XS.aloadN X1.here hx rfl (hb hby d21_12) rfl rfl k))))) ?_
  obtain ⟨T3, X3, e3, st3⟩ := getF X1 hx hZ hown (host := "") (Or.inl (hw _ mm122)) Via.refl e1 Fi (g := (mkF m 13 #[lR a, lI nd, lI x, lI ch1] [(.ref a)])) rfl rfl (hb hby d21_13)
  refine Ds (B := T3.setTop (mkF m 16 #[lR a, lI nd, lI x, lI ch1] [(.ref ui)])) (fun _ k => st3 _ k) ?_
  refine Ds (B := T3.setTop (mkF m 17 #[lR a, lI nd, lI x, lI ch1] [(.int ch1), (.ref ui)])) (fun _ k => XS.iloadN X3.here hx rfl (hb hby d21_16) rfl k) ?_
  obtain ⟨cl4, Ar4, q4, S4, M4, H4, G4⟩ := id Vi
  have hin4 : ¬ (ch1 < 0 ∨ cl4.slots.size ≤ (ch1).toNatClampNeg) := inb_of S4 hb_0
  have hat4 : cl4.slots[(ch1).toNatClampNeg]? = some (.int cv1) := Has.at H4 hin4 hi_0
  refine Ds (B := T3.setTop (mkF m 18 #[lR a, lI nd, lI x, lI ch1] [(.int cv1)])) (fun _ k => X3.iaload hx (j := ch1) (v := (.int cv1)) (by rw [e3]; exact Ar4.1) (State.isArrayOf_alike hZ.alike Ar4.2.1) Ar4.2.2 hin4 hat4 (g := (mkF m 17 #[lR a, lI nd, lI x, lI ch1] [(.int ch1), (.ref ui)])) rfl rfl (hb hby d21_17) _ k) ?_
  refine Ds (B := T3.setTop (mkF m 19 #[lR a, lI nd, lI x, lI ch1] [(.int x), (.int cv1)])) (fun _ k => XS.iloadN X3.here hx rfl (hb hby d21_18) rfl k) ?_
  by_cases hc19 : cv1 < x
  · refine Ds (B := T3.setTop (mkF m 39 #[lR a, lI nd, lI x, lI ch1] [(.ref a)])) (fun _ k => XS.icmpYes X3.here hx rfl (pc0 := 19) (pc' := 38) rfl (hb hby d21_19) rfl (tlt hc19).1 (by decide) (by decide) (XS.aloadN X3.here hx rfl (hb hby d21_38) rfl rfl k)) ?_
    obtain ⟨T5, X5, e5, st5⟩ := getF X3 hx hZ hown (host := "") (Or.inl (hw _ mm128)) Via.refl e3 Fn (g := (mkF m 39 #[lR a, lI nd, lI x, lI ch1] [(.ref a)])) rfl rfl (hb hby d21_39)
    refine Ds (B := T5.setTop (mkF m 42 #[lR a, lI nd, lI x, lI ch1] [(.ref un)])) (fun _ k => st5 _ k) ?_
    refine Ds (B := T5.setTop (mkF m 43 #[lR a, lI nd, lI x, lI ch1] [(.int ch1), (.ref un)])) (fun _ k => XS.iloadN X5.here hx rfl (hb hby d21_42) rfl k) ?_
    obtain ⟨cl6, Ar6, q6, S6, M6, H6, G6⟩ := id Vn
    have hin6 : ¬ (ch1 < 0 ∨ cl6.slots.size ≤ (ch1).toNatClampNeg) := inb_of S6 hb_0
    have hat6 : cl6.slots[(ch1).toNatClampNeg]? = some (.int (-1)) := Has.at H6 hin6 hn_0
    refine Ds (B := T5.setTop (mkF m 44 #[lR a, lI nd, lI x, lI ch1] [(.int (-1))])) (fun _ k => X5.iaload hx (j := ch1) (v := (.int (-1))) (by rw [e5]; exact Ar6.1) (State.isArrayOf_alike hZ.alike Ar6.2.1) Ar6.2.2 hin6 hat6 (g := (mkF m 43 #[lR a, lI nd, lI x, lI ch1] [(.int ch1), (.ref un)])) rfl rfl (hb hby d21_43) _ k) ?_
    refine Ds (B := T5.setTop (mkF m 49 #[lR a, lI nd, lI x, lI (-1)] [(.int (-1))])) (fun _ k => XS.istoreN X5.here hx rfl (hb hby d21_44) rfl (l' := #[lR a, lI nd, lI x, lI (-1)]) rfl (XS.goto X5.here hx rfl (pc0 := 45) (pc' := 7) rfl (hb hby d21_45) (by decide) (by decide) (XS.iloadN X5.here hx rfl (hb hby d21_7) rfl (XS.iconst X5.here hx rfl (hb hby d21_8) (XS.icmpYes X5.here hx rfl (pc0 := 9) (pc' := 48) rfl (hb hby d21_9) rfl (teq (rfl : (-1 : Int32) = (-1 : Int32))).1 (by decide) (by decide) (XS.iconst X5.here hx rfl (hb hby d21_48) k)))))) ?_
    obtain ⟨fs, hr, hrun, hended, hW, hsame⟩ := X5.leave (v := some (.int (-1))) (hlocks := hlk) (fun h => by rw [Bd.returns] at h; cases h)
    refine Done.fin (retI X5 hx Bd.returns (hb hby d21_49) hr) hrun hended ⟨_, _, rfl, ?_, ⟨_, rfl⟩, hW, hsame.mono (by decide) (by decide)⟩
    show QrmCH_1 Z a nd x ui kui vi uf kuf vf un kun vn ch1 cv1 h0 n0 _ T5.heap _
    rw [e5]
    exact ⟨congrArg (fun z => some (Value.int z)) (Eq.symm (own_find_lt hc19 rfl)), N0, rfl⟩
  · refine Ds (B := T3.setTop (mkF m 23 #[lR a, lI nd, lI x, lI ch1] [(.ref a)])) (fun _ k => XS.icmpNo X3.here hx rfl (hb hby d21_19) rfl (flt hc19).1 (XS.aloadN X3.here hx rfl (hb hby d21_22) rfl rfl k)) ?_
    obtain ⟨T8, X8, e8, st8⟩ := getF X3 hx hZ hown (host := "") (Or.inl (hw _ mm122)) Via.refl e3 Fi (g := (mkF m 23 #[lR a, lI nd, lI x, lI ch1] [(.ref a)])) rfl rfl (hb hby d21_23)
    refine Ds (B := T8.setTop (mkF m 26 #[lR a, lI nd, lI x, lI ch1] [(.ref ui)])) (fun _ k => st8 _ k) ?_
    refine Ds (B := T8.setTop (mkF m 27 #[lR a, lI nd, lI x, lI ch1] [(.int ch1), (.ref ui)])) (fun _ k => XS.iloadN X8.here hx rfl (hb hby d21_26) rfl k) ?_
    obtain ⟨cl9, Ar9, q9, S9, M9, H9, G9⟩ := id Vi
    have hin9 : ¬ (ch1 < 0 ∨ cl9.slots.size ≤ (ch1).toNatClampNeg) := inb_of S9 hb_0
    have hat9 : cl9.slots[(ch1).toNatClampNeg]? = some (.int cv1) := Has.at H9 hin9 hi_0
    refine Ds (B := T8.setTop (mkF m 28 #[lR a, lI nd, lI x, lI ch1] [(.int cv1)])) (fun _ k => X8.iaload hx (j := ch1) (v := (.int cv1)) (by rw [e8]; exact Ar9.1) (State.isArrayOf_alike hZ.alike Ar9.2.1) Ar9.2.2 hin9 hat9 (g := (mkF m 27 #[lR a, lI nd, lI x, lI ch1] [(.int ch1), (.ref ui)])) rfl rfl (hb hby d21_27) _ k) ?_
    refine Ds (B := T8.setTop (mkF m 29 #[lR a, lI nd, lI x, lI ch1] [(.int x), (.int cv1)])) (fun _ k => XS.iloadN X8.here hx rfl (hb hby d21_28) rfl k) ?_
    by_cases hc29 : cv1 = x
    · refine Ds (B := T8.setTop (mkF m 37 #[lR a, lI nd, lI x, lI ch1] [(.int ch1)])) (fun _ k => XS.icmpNo X8.here hx rfl (hb hby d21_29) rfl (teq hc29).2 (XS.iloadN X8.here hx rfl (hb hby d21_32) rfl (XS.goto X8.here hx rfl (pc0 := 33) (pc' := 37) rfl (hb hby d21_33) (by decide) (by decide) k))) ?_
      obtain ⟨fs, hr, hrun, hended, hW, hsame⟩ := X8.leave (v := some (.int ch1)) (hlocks := hlk) (fun h => by rw [Bd.returns] at h; cases h)
      refine Done.fin (retI X8 hx Bd.returns (hb hby d21_37) hr) hrun hended ⟨_, _, rfl, ?_, ⟨_, rfl⟩, hW, hsame.mono (by decide) (by decide)⟩
      show QrmCH_1 Z a nd x ui kui vi uf kuf vf un kun vn ch1 cv1 h0 n0 _ T8.heap _
      rw [e8]
      exact ⟨congrArg (fun z => some (Value.int z)) (Eq.symm (own_find_eq hc29)), N0, rfl⟩
    · refine Ds (B := T8.setTop (mkF m 37 #[lR a, lI nd, lI x, lI ch1] [(.int (-1))])) (fun _ k => XS.icmpYes X8.here hx rfl (pc0 := 29) (pc' := 36) rfl (hb hby d21_29) rfl (feq hc29).2 (by decide) (by decide) (XS.iconst X8.here hx rfl (hb hby d21_36) k)) ?_
      obtain ⟨fs, hr, hrun, hended, hW, hsame⟩ := X8.leave (v := some (.int (-1))) (hlocks := hlk) (fun h => by rw [Bd.returns] at h; cases h)
      refine Done.fin (retI X8 hx Bd.returns (hb hby d21_37) hr) hrun hended ⟨_, _, rfl, ?_, ⟨_, rfl⟩, hW, hsame.mono (by decide) (by decide)⟩
      show QrmCH_1 Z a nd x ui kui vi uf kuf vf un kun vn ch1 cv1 h0 n0 _ T8.heap _
      rw [e8]
      exact ⟨congrArg (fun z => some (Value.int z)) (Eq.symm (own_find_no hc19 hc29)), N0, rfl⟩
theorem ef_rmCH_2 (m : MethodId) (a : Addr) (nd : Int32) (x : Int32) : entryFrame m #[(.ref a), (.int nd), (.int x)] 4 = mkF m 0 #[lR a, lI nd, lI x, lU] [] := by first | (simp [entryFrame, mkF, argsToLocals, Value.category]; done) | rfl
def QrmCH_2 (Z : State) (a : Addr) (nd : Int32) (x : Int32) (ui : Addr) (kui : ClassId) (vi : List Value) (uf : Addr) (kuf : ClassId) (vf : List Value) (un : Addr) (kun : ClassId) (vn : List Value) (ch1 : Int32) (ch2 : Int32) (cv1 : Int32) (cv2 : Int32) (h0 : Heap) (n0 : Nat) (v : Option Value) (h : Heap) (L : List Loc) : Prop := v = some (.int (own_find [(ch1, cv1), (ch2, cv2)] x)) ∧ Fr n0 L ∧ h = h0
def PrmCH_2 (s : State) (Z : State) (a : Addr) (nd : Int32) (x : Int32) (ui : Addr) (kui : ClassId) (vi : List Value) (uf : Addr) (kuf : ClassId) (vf : List Value) (un : Addr) (kun : ClassId) (vn : List Value) (ch1 : Int32) (ch2 : Int32) (cv1 : Int32) (cv2 : Int32) (h0 : Heap) (n0 : Nat) : State → Outcome → Prop := fun U' o => ∃ v L, o = .returned v ∧ QrmCH_2 Z a nd x ui kui vi uf kuf vf un kun vn ch1 ch2 cv1 cv2 h0 n0 v U'.heap L ∧ FrameEnd s o U' L ({ frames := 0, cells := 0, slots := 0, locals := 0 } : Room).cells ({ frames := 0, cells := 0, slots := 0, locals := 0 } : Room).slots
set_option maxRecDepth 65536 in
set_option maxHeartbeats 40000000 in
theorem rmCH_2 (l : Launch) (Z : State) (a0 : Array Value) (hw : ∀ d ∈ tables_1, d.before a0 Z = true) (ws : List Jvm.Cond) (a : Addr) (nd : Int32) (x : Int32) (ui : Addr) (kui : ClassId) (vi : List Value) (uf : Addr) (kuf : ClassId) (vf : List Value) (un : Addr) (kun : ClassId) (vn : List Value) (ch1 : Int32) (ch2 : Int32) (cv1 : Int32) (cv2 : Int32) (h0 : Heap) (n0 : Nat) (Z0 : n0 ≤ h0.size) (Fi : Fld Z h0 a "com/example/percurso/percurso/suite/PrefixTree" "inputs" "[I" (.ref ui)) (Ff : Fld Z h0 a "com/example/percurso/percurso/suite/PrefixTree" "firstChildren" "[I" (.ref uf)) (Fn : Fld Z h0 a "com/example/percurso/percurso/suite/PrefixTree" "nextSiblings" "[I" (.ref un)) (Vi : Arv Z h0 ui kui .int 5 vi (.int 0)) (Vf : Arv Z h0 uf kuf .int 5 vf (.int 0)) (Vn : Arv Z h0 un kun .int 5 vn (.int 0)) (hbd : ¬ nd < 0 ∧ nd < 5) (hf : vf.getD nd.toNatClampNeg (.int 0) = .int ch1) (hb_0 : ¬ ch1 < 0 ∧ ch1 < 5) (hi_0 : vi.getD ch1.toNatClampNeg (.int 0) = .int cv1) (hn_0 : vn.getD ch1.toNatClampNeg (.int 0) = .int ch2) (hb_1 : ¬ ch2 < 0 ∧ ch2 < 5) (hi_1 : vi.getD ch2.toNatClampNeg (.int 0) = .int cv2) (hn_1 : vn.getD ch2.toNatClampNeg (.int 0) = .int (-1)) :
    MetFree l (⟨"com/example/percurso/percurso/suite/PrefixTree", "child", "(II)I"⟩ : MethodName) (head1 (Jvm.Cond.code (⟨"com/example/percurso/percurso/suite/PrefixTree", "child", "(II)I"⟩ : MethodName) prog_191_method_9_code 4 (some .int) :: ws) ({ frames := 0, cells := 0, slots := 0, locals := 0 } : Room)) (fun aa U => aa = #[(.ref a), (.int nd), (.int x)] ∧ Z.Warmed39 U.vm ∧ U.heap = h0) (fun _ _ _ _ _ => True) (fun _ U o U' => ∃ v L, o = .returned v ∧ QrmCH_2 Z a nd x ui kui vi uf kuf vf un kun vn ch1 ch2 cv1 cv2 h0 n0 v U'.heap L ∧ FrameEnd U o U' L ({ frames := 0, cells := 0, slots := 0, locals := 0 } : Room).cells ({ frames := 0, cells := 0, slots := 0, locals := 0 } : Room).slots) := by
  refine MetFree.of_bodySF (plainFor_of_name pn_6) hisR ?_
  intro p e s m args below meth c s₁ Bd hml0 hP hK
  obtain ⟨rfl, hZ, hh⟩ := hP
  have hx := Bd.exec
  have hlk : meth.locks = false := by first | exact BodyLoose.notSynchronized Bd | exact Body.notSynchronized Bd
  have hby := Bd.bytes
  have hml : c.maxLocals = 4 := hml0
  have hown : s.vm.findClass "com/example/percurso/percurso/suite/PrefixTree" = some m.cls := findClass_of_methodNamed Bd.named
  have hnm := (name_of_methodNamed Bd.named Bd.method).1
  have X0 : Stand p l e ({ frames := 0, cells := 0, slots := 0, locals := 0 } : Room) s m #[(.ref a), (.int nd), (.int x)] below meth c s₁ [] 0 0 := Stand.of_body Bd
  have e0 : s₁.heap = h0 := by rw [← hh, Bd.state]; rfl
  have N0 := Fr.nil n0
  show Done p e below (PrmCH_2 s Z a nd x ui kui vi uf kuf vf un kun vn ch1 ch2 cv1 cv2 h0 n0) (s₁.setTop (entryFrame m #[(.ref a), (.int nd), (.int x)] 4))
  refine Ds (B := s₁.setTop (mkF m 0 #[lR a, lI nd, lI x, lU] [])) (fun _ k => castTop (ef_rmCH_2 m a nd x) k) ?_
  refine Ds (B := s₁.setTop (mkF m 1 #[lR a, lI nd, lI x, lU] [(.ref a)])) (fun _ k => XS.aloadN X0.here hx rfl (hb hby d21_0) rfl rfl k) ?_
  obtain ⟨T1, X1, e1, st1⟩ := getF X0 hx hZ hown (host := "") (Or.inl (hw _ mm126)) Via.refl e0 Ff (g := (mkF m 1 #[lR a, lI nd, lI x, lU] [(.ref a)])) rfl rfl (hb hby d21_1)
  refine Ds (B := T1.setTop (mkF m 4 #[lR a, lI nd, lI x, lU] [(.ref uf)])) (fun _ k => st1 _ k) ?_
  refine Ds (B := T1.setTop (mkF m 5 #[lR a, lI nd, lI x, lU] [(.int nd), (.ref uf)])) (fun _ k => XS.iloadN X1.here hx rfl (hb hby d21_4) rfl k) ?_
  obtain ⟨cl2, Ar2, q2, S2, M2, H2, G2⟩ := id Vf
  have hin2 : ¬ (nd < 0 ∨ cl2.slots.size ≤ (nd).toNatClampNeg) := inb_of S2 hbd
  have hat2 : cl2.slots[(nd).toNatClampNeg]? = some (.int ch1) := Has.at H2 hin2 hf
  refine Ds (B := T1.setTop (mkF m 6 #[lR a, lI nd, lI x, lU] [(.int ch1)])) (fun _ k => X1.iaload hx (j := nd) (v := (.int ch1)) (by rw [e1]; exact Ar2.1) (State.isArrayOf_alike hZ.alike Ar2.2.1) Ar2.2.2 hin2 hat2 (g := (mkF m 5 #[lR a, lI nd, lI x, lU] [(.int nd), (.ref uf)])) rfl rfl (hb hby d21_5) _ k) ?_
  refine Ds (B := T1.setTop (mkF m 13 #[lR a, lI nd, lI x, lI ch1] [(.ref a)])) (fun _ k => XS.istoreN X1.here hx rfl (hb hby d21_6) rfl (l' := #[lR a, lI nd, lI x, lI ch1]) rfl (XS.iloadN X1.here hx rfl (hb hby d21_7) rfl (XS.iconst X1.here hx rfl (hb hby d21_8) (XS.icmpNo X1.here hx rfl (hb hby d21_9) rfl (feq (own_nm1 hb_0)).1 (XS.aloadN X1.here hx rfl (hb hby d21_12) rfl rfl k))))) ?_
  obtain ⟨T3, X3, e3, st3⟩ := getF X1 hx hZ hown (host := "") (Or.inl (hw _ mm122)) Via.refl e1 Fi (g := (mkF m 13 #[lR a, lI nd, lI x, lI ch1] [(.ref a)])) rfl rfl (hb hby d21_13)
  refine Ds (B := T3.setTop (mkF m 16 #[lR a, lI nd, lI x, lI ch1] [(.ref ui)])) (fun _ k => st3 _ k) ?_
  refine Ds (B := T3.setTop (mkF m 17 #[lR a, lI nd, lI x, lI ch1] [(.int ch1), (.ref ui)])) (fun _ k => XS.iloadN X3.here hx rfl (hb hby d21_16) rfl k) ?_
  obtain ⟨cl4, Ar4, q4, S4, M4, H4, G4⟩ := id Vi
  have hin4 : ¬ (ch1 < 0 ∨ cl4.slots.size ≤ (ch1).toNatClampNeg) := inb_of S4 hb_0
  have hat4 : cl4.slots[(ch1).toNatClampNeg]? = some (.int cv1) := Has.at H4 hin4 hi_0
  refine Ds (B := T3.setTop (mkF m 18 #[lR a, lI nd, lI x, lI ch1] [(.int cv1)])) (fun _ k => X3.iaload hx (j := ch1) (v := (.int cv1)) (by rw [e3]; exact Ar4.1) (State.isArrayOf_alike hZ.alike Ar4.2.1) Ar4.2.2 hin4 hat4 (g := (mkF m 17 #[lR a, lI nd, lI x, lI ch1] [(.int ch1), (.ref ui)])) rfl rfl (hb hby d21_17) _ k) ?_
  refine Ds (B := T3.setTop (mkF m 19 #[lR a, lI nd, lI x, lI ch1] [(.int x), (.int cv1)])) (fun _ k => XS.iloadN X3.here hx rfl (hb hby d21_18) rfl k) ?_
  by_cases hc19 : cv1 < x
  · refine Ds (B := T3.setTop (mkF m 39 #[lR a, lI nd, lI x, lI ch1] [(.ref a)])) (fun _ k => XS.icmpYes X3.here hx rfl (pc0 := 19) (pc' := 38) rfl (hb hby d21_19) rfl (tlt hc19).1 (by decide) (by decide) (XS.aloadN X3.here hx rfl (hb hby d21_38) rfl rfl k)) ?_
    obtain ⟨T5, X5, e5, st5⟩ := getF X3 hx hZ hown (host := "") (Or.inl (hw _ mm128)) Via.refl e3 Fn (g := (mkF m 39 #[lR a, lI nd, lI x, lI ch1] [(.ref a)])) rfl rfl (hb hby d21_39)
    refine Ds (B := T5.setTop (mkF m 42 #[lR a, lI nd, lI x, lI ch1] [(.ref un)])) (fun _ k => st5 _ k) ?_
    refine Ds (B := T5.setTop (mkF m 43 #[lR a, lI nd, lI x, lI ch1] [(.int ch1), (.ref un)])) (fun _ k => XS.iloadN X5.here hx rfl (hb hby d21_42) rfl k) ?_
    obtain ⟨cl6, Ar6, q6, S6, M6, H6, G6⟩ := id Vn
    have hin6 : ¬ (ch1 < 0 ∨ cl6.slots.size ≤ (ch1).toNatClampNeg) := inb_of S6 hb_0
    have hat6 : cl6.slots[(ch1).toNatClampNeg]? = some (.int ch2) := Has.at H6 hin6 hn_0
    refine Ds (B := T5.setTop (mkF m 44 #[lR a, lI nd, lI x, lI ch1] [(.int ch2)])) (fun _ k => X5.iaload hx (j := ch1) (v := (.int ch2)) (by rw [e5]; exact Ar6.1) (State.isArrayOf_alike hZ.alike Ar6.2.1) Ar6.2.2 hin6 hat6 (g := (mkF m 43 #[lR a, lI nd, lI x, lI ch1] [(.int ch1), (.ref un)])) rfl rfl (hb hby d21_43) _ k) ?_
    refine Ds (B := T5.setTop (mkF m 13 #[lR a, lI nd, lI x, lI ch2] [(.ref a)])) (fun _ k => XS.istoreN X5.here hx rfl (hb hby d21_44) rfl (l' := #[lR a, lI nd, lI x, lI ch2]) rfl (XS.goto X5.here hx rfl (pc0 := 45) (pc' := 7) rfl (hb hby d21_45) (by decide) (by decide) (XS.iloadN X5.here hx rfl (hb hby d21_7) rfl (XS.iconst X5.here hx rfl (hb hby d21_8) (XS.icmpNo X5.here hx rfl (hb hby d21_9) rfl (feq (own_nm1 hb_1)).1 (XS.aloadN X5.here hx rfl (hb hby d21_12) rfl rfl k)))))) ?_
    obtain ⟨T7, X7, e7, st7⟩ := getF X5 hx hZ hown (host := "") (Or.inl (hw _ mm122)) Via.refl e5 Fi (g := (mkF m 13 #[lR a, lI nd, lI x, lI ch2] [(.ref a)])) rfl rfl (hb hby d21_13)
    refine Ds (B := T7.setTop (mkF m 16 #[lR a, lI nd, lI x, lI ch2] [(.ref ui)])) (fun _ k => st7 _ k) ?_
    refine Ds (B := T7.setTop (mkF m 17 #[lR a, lI nd, lI x, lI ch2] [(.int ch2), (.ref ui)])) (fun _ k => XS.iloadN X7.here hx rfl (hb hby d21_16) rfl k) ?_
    obtain ⟨cl8, Ar8, q8, S8, M8, H8, G8⟩ := id Vi
    have hin8 : ¬ (ch2 < 0 ∨ cl8.slots.size ≤ (ch2).toNatClampNeg) := inb_of S8 hb_1
    have hat8 : cl8.slots[(ch2).toNatClampNeg]? = some (.int cv2) := Has.at H8 hin8 hi_1
    refine Ds (B := T7.setTop (mkF m 18 #[lR a, lI nd, lI x, lI ch2] [(.int cv2)])) (fun _ k => X7.iaload hx (j := ch2) (v := (.int cv2)) (by rw [e7]; exact Ar8.1) (State.isArrayOf_alike hZ.alike Ar8.2.1) Ar8.2.2 hin8 hat8 (g := (mkF m 17 #[lR a, lI nd, lI x, lI ch2] [(.int ch2), (.ref ui)])) rfl rfl (hb hby d21_17) _ k) ?_
    refine Ds (B := T7.setTop (mkF m 19 #[lR a, lI nd, lI x, lI ch2] [(.int x), (.int cv2)])) (fun _ k => XS.iloadN X7.here hx rfl (hb hby d21_18) rfl k) ?_
    by_cases hc19' : cv2 < x
    · refine Ds (B := T7.setTop (mkF m 39 #[lR a, lI nd, lI x, lI ch2] [(.ref a)])) (fun _ k => XS.icmpYes X7.here hx rfl (pc0 := 19) (pc' := 38) rfl (hb hby d21_19) rfl (tlt (hc19')).1 (by decide) (by decide) (XS.aloadN X7.here hx rfl (hb hby d21_38) rfl rfl k)) ?_
      obtain ⟨T9, X9, e9, st9⟩ := getF X7 hx hZ hown (host := "") (Or.inl (hw _ mm128)) Via.refl e7 Fn (g := (mkF m 39 #[lR a, lI nd, lI x, lI ch2] [(.ref a)])) rfl rfl (hb hby d21_39)
      refine Ds (B := T9.setTop (mkF m 42 #[lR a, lI nd, lI x, lI ch2] [(.ref un)])) (fun _ k => st9 _ k) ?_
      refine Ds (B := T9.setTop (mkF m 43 #[lR a, lI nd, lI x, lI ch2] [(.int ch2), (.ref un)])) (fun _ k => XS.iloadN X9.here hx rfl (hb hby d21_42) rfl k) ?_
      obtain ⟨cl10, Ar10, q10, S10, M10, H10, G10⟩ := id Vn
      have hin10 : ¬ (ch2 < 0 ∨ cl10.slots.size ≤ (ch2).toNatClampNeg) := inb_of S10 hb_1
      have hat10 : cl10.slots[(ch2).toNatClampNeg]? = some (.int (-1)) := Has.at H10 hin10 hn_1
      refine Ds (B := T9.setTop (mkF m 44 #[lR a, lI nd, lI x, lI ch2] [(.int (-1))])) (fun _ k => X9.iaload hx (j := ch2) (v := (.int (-1))) (by rw [e9]; exact Ar10.1) (State.isArrayOf_alike hZ.alike Ar10.2.1) Ar10.2.2 hin10 hat10 (g := (mkF m 43 #[lR a, lI nd, lI x, lI ch2] [(.int ch2), (.ref un)])) rfl rfl (hb hby d21_43) _ k) ?_
      refine Ds (B := T9.setTop (mkF m 49 #[lR a, lI nd, lI x, lI (-1)] [(.int (-1))])) (fun _ k => XS.istoreN X9.here hx rfl (hb hby d21_44) rfl (l' := #[lR a, lI nd, lI x, lI (-1)]) rfl (XS.goto X9.here hx rfl (pc0 := 45) (pc' := 7) rfl (hb hby d21_45) (by decide) (by decide) (XS.iloadN X9.here hx rfl (hb hby d21_7) rfl (XS.iconst X9.here hx rfl (hb hby d21_8) (XS.icmpYes X9.here hx rfl (pc0 := 9) (pc' := 48) rfl (hb hby d21_9) rfl (teq (rfl : (-1 : Int32) = (-1 : Int32))).1 (by decide) (by decide) (XS.iconst X9.here hx rfl (hb hby d21_48) k)))))) ?_
      obtain ⟨fs, hr, hrun, hended, hW, hsame⟩ := X9.leave (v := some (.int (-1))) (hlocks := hlk) (fun h => by rw [Bd.returns] at h; cases h)
      refine Done.fin (retI X9 hx Bd.returns (hb hby d21_49) hr) hrun hended ⟨_, _, rfl, ?_, ⟨_, rfl⟩, hW, hsame.mono (by decide) (by decide)⟩
      show QrmCH_2 Z a nd x ui kui vi uf kuf vf un kun vn ch1 ch2 cv1 cv2 h0 n0 _ T9.heap _
      rw [e9]
      exact ⟨congrArg (fun z => some (Value.int z)) (Eq.symm (own_find_lt hc19 (own_find_lt hc19' rfl))), N0, rfl⟩
    · refine Ds (B := T7.setTop (mkF m 23 #[lR a, lI nd, lI x, lI ch2] [(.ref a)])) (fun _ k => XS.icmpNo X7.here hx rfl (hb hby d21_19) rfl (flt (hc19')).1 (XS.aloadN X7.here hx rfl (hb hby d21_22) rfl rfl k)) ?_
      obtain ⟨T12, X12, e12, st12⟩ := getF X7 hx hZ hown (host := "") (Or.inl (hw _ mm122)) Via.refl e7 Fi (g := (mkF m 23 #[lR a, lI nd, lI x, lI ch2] [(.ref a)])) rfl rfl (hb hby d21_23)
      refine Ds (B := T12.setTop (mkF m 26 #[lR a, lI nd, lI x, lI ch2] [(.ref ui)])) (fun _ k => st12 _ k) ?_
      refine Ds (B := T12.setTop (mkF m 27 #[lR a, lI nd, lI x, lI ch2] [(.int ch2), (.ref ui)])) (fun _ k => XS.iloadN X12.here hx rfl (hb hby d21_26) rfl k) ?_
      obtain ⟨cl13, Ar13, q13, S13, M13, H13, G13⟩ := id Vi
      have hin13 : ¬ (ch2 < 0 ∨ cl13.slots.size ≤ (ch2).toNatClampNeg) := inb_of S13 hb_1
      have hat13 : cl13.slots[(ch2).toNatClampNeg]? = some (.int cv2) := Has.at H13 hin13 hi_1
      refine Ds (B := T12.setTop (mkF m 28 #[lR a, lI nd, lI x, lI ch2] [(.int cv2)])) (fun _ k => X12.iaload hx (j := ch2) (v := (.int cv2)) (by rw [e12]; exact Ar13.1) (State.isArrayOf_alike hZ.alike Ar13.2.1) Ar13.2.2 hin13 hat13 (g := (mkF m 27 #[lR a, lI nd, lI x, lI ch2] [(.int ch2), (.ref ui)])) rfl rfl (hb hby d21_27) _ k) ?_
      refine Ds (B := T12.setTop (mkF m 29 #[lR a, lI nd, lI x, lI ch2] [(.int x), (.int cv2)])) (fun _ k => XS.iloadN X12.here hx rfl (hb hby d21_28) rfl k) ?_
      by_cases hc29 : cv2 = x
      · refine Ds (B := T12.setTop (mkF m 37 #[lR a, lI nd, lI x, lI ch2] [(.int ch2)])) (fun _ k => XS.icmpNo X12.here hx rfl (hb hby d21_29) rfl (teq hc29).2 (XS.iloadN X12.here hx rfl (hb hby d21_32) rfl (XS.goto X12.here hx rfl (pc0 := 33) (pc' := 37) rfl (hb hby d21_33) (by decide) (by decide) k))) ?_
        obtain ⟨fs, hr, hrun, hended, hW, hsame⟩ := X12.leave (v := some (.int ch2)) (hlocks := hlk) (fun h => by rw [Bd.returns] at h; cases h)
        refine Done.fin (retI X12 hx Bd.returns (hb hby d21_37) hr) hrun hended ⟨_, _, rfl, ?_, ⟨_, rfl⟩, hW, hsame.mono (by decide) (by decide)⟩
        show QrmCH_2 Z a nd x ui kui vi uf kuf vf un kun vn ch1 ch2 cv1 cv2 h0 n0 _ T12.heap _
        rw [e12]
        exact ⟨congrArg (fun z => some (Value.int z)) (Eq.symm (own_find_lt hc19 (own_find_eq hc29))), N0, rfl⟩
      · refine Ds (B := T12.setTop (mkF m 37 #[lR a, lI nd, lI x, lI ch2] [(.int (-1))])) (fun _ k => XS.icmpYes X12.here hx rfl (pc0 := 29) (pc' := 36) rfl (hb hby d21_29) rfl (feq hc29).2 (by decide) (by decide) (XS.iconst X12.here hx rfl (hb hby d21_36) k)) ?_
        obtain ⟨fs, hr, hrun, hended, hW, hsame⟩ := X12.leave (v := some (.int (-1))) (hlocks := hlk) (fun h => by rw [Bd.returns] at h; cases h)
        refine Done.fin (retI X12 hx Bd.returns (hb hby d21_37) hr) hrun hended ⟨_, _, rfl, ?_, ⟨_, rfl⟩, hW, hsame.mono (by decide) (by decide)⟩
        show QrmCH_2 Z a nd x ui kui vi uf kuf vf un kun vn ch1 ch2 cv1 cv2 h0 n0 _ T12.heap _
        rw [e12]
        exact ⟨congrArg (fun z => some (Value.int z)) (Eq.symm (own_find_lt hc19 (own_find_no hc19' hc29))), N0, rfl⟩
  · refine Ds (B := T3.setTop (mkF m 23 #[lR a, lI nd, lI x, lI ch1] [(.ref a)])) (fun _ k => XS.icmpNo X3.here hx rfl (hb hby d21_19) rfl (flt hc19).1 (XS.aloadN X3.here hx rfl (hb hby d21_22) rfl rfl k)) ?_
    obtain ⟨T16, X16, e16, st16⟩ := getF X3 hx hZ hown (host := "") (Or.inl (hw _ mm122)) Via.refl e3 Fi (g := (mkF m 23 #[lR a, lI nd, lI x, lI ch1] [(.ref a)])) rfl rfl (hb hby d21_23)
    refine Ds (B := T16.setTop (mkF m 26 #[lR a, lI nd, lI x, lI ch1] [(.ref ui)])) (fun _ k => st16 _ k) ?_
    refine Ds (B := T16.setTop (mkF m 27 #[lR a, lI nd, lI x, lI ch1] [(.int ch1), (.ref ui)])) (fun _ k => XS.iloadN X16.here hx rfl (hb hby d21_26) rfl k) ?_
    obtain ⟨cl17, Ar17, q17, S17, M17, H17, G17⟩ := id Vi
    have hin17 : ¬ (ch1 < 0 ∨ cl17.slots.size ≤ (ch1).toNatClampNeg) := inb_of S17 hb_0
    have hat17 : cl17.slots[(ch1).toNatClampNeg]? = some (.int cv1) := Has.at H17 hin17 hi_0
    refine Ds (B := T16.setTop (mkF m 28 #[lR a, lI nd, lI x, lI ch1] [(.int cv1)])) (fun _ k => X16.iaload hx (j := ch1) (v := (.int cv1)) (by rw [e16]; exact Ar17.1) (State.isArrayOf_alike hZ.alike Ar17.2.1) Ar17.2.2 hin17 hat17 (g := (mkF m 27 #[lR a, lI nd, lI x, lI ch1] [(.int ch1), (.ref ui)])) rfl rfl (hb hby d21_27) _ k) ?_
    refine Ds (B := T16.setTop (mkF m 29 #[lR a, lI nd, lI x, lI ch1] [(.int x), (.int cv1)])) (fun _ k => XS.iloadN X16.here hx rfl (hb hby d21_28) rfl k) ?_
    by_cases hc29 : cv1 = x
    · refine Ds (B := T16.setTop (mkF m 37 #[lR a, lI nd, lI x, lI ch1] [(.int ch1)])) (fun _ k => XS.icmpNo X16.here hx rfl (hb hby d21_29) rfl (teq hc29).2 (XS.iloadN X16.here hx rfl (hb hby d21_32) rfl (XS.goto X16.here hx rfl (pc0 := 33) (pc' := 37) rfl (hb hby d21_33) (by decide) (by decide) k))) ?_
      obtain ⟨fs, hr, hrun, hended, hW, hsame⟩ := X16.leave (v := some (.int ch1)) (hlocks := hlk) (fun h => by rw [Bd.returns] at h; cases h)
      refine Done.fin (retI X16 hx Bd.returns (hb hby d21_37) hr) hrun hended ⟨_, _, rfl, ?_, ⟨_, rfl⟩, hW, hsame.mono (by decide) (by decide)⟩
      show QrmCH_2 Z a nd x ui kui vi uf kuf vf un kun vn ch1 ch2 cv1 cv2 h0 n0 _ T16.heap _
      rw [e16]
      exact ⟨congrArg (fun z => some (Value.int z)) (Eq.symm (own_find_eq hc29)), N0, rfl⟩
    · refine Ds (B := T16.setTop (mkF m 37 #[lR a, lI nd, lI x, lI ch1] [(.int (-1))])) (fun _ k => XS.icmpYes X16.here hx rfl (pc0 := 29) (pc' := 36) rfl (hb hby d21_29) rfl (feq hc29).2 (by decide) (by decide) (XS.iconst X16.here hx rfl (hb hby d21_36) k)) ?_
      obtain ⟨fs, hr, hrun, hended, hW, hsame⟩ := X16.leave (v := some (.int (-1))) (hlocks := hlk) (fun h => by rw [Bd.returns] at h; cases h)
      refine Done.fin (retI X16 hx Bd.returns (hb hby d21_37) hr) hrun hended ⟨_, _, rfl, ?_, ⟨_, rfl⟩, hW, hsame.mono (by decide) (by decide)⟩
      show QrmCH_2 Z a nd x ui kui vi uf kuf vf un kun vn ch1 ch2 cv1 cv2 h0 n0 _ T16.heap _
      rw [e16]
      exact ⟨congrArg (fun z => some (Value.int z)) (Eq.symm (own_find_no hc19 hc29)), N0, rfl⟩
theorem ef_rmCH_3 (m : MethodId) (a : Addr) (nd : Int32) (x : Int32) : entryFrame m #[(.ref a), (.int nd), (.int x)] 4 = mkF m 0 #[lR a, lI nd, lI x, lU] [] := by first | (simp [entryFrame, mkF, argsToLocals, Value.category]; done) | rfl
def QrmCH_3 (Z : State) (a : Addr) (nd : Int32) (x : Int32) (ui : Addr) (kui : ClassId) (vi : List Value) (uf : Addr) (kuf : ClassId) (vf : List Value) (un : Addr) (kun : ClassId) (vn : List Value) (ch1 : Int32) (ch2 : Int32) (ch3 : Int32) (cv1 : Int32) (cv2 : Int32) (cv3 : Int32) (h0 : Heap) (n0 : Nat) (v : Option Value) (h : Heap) (L : List Loc) : Prop := v = some (.int (own_find [(ch1, cv1), (ch2, cv2), (ch3, cv3)] x)) ∧ Fr n0 L ∧ h = h0
def PrmCH_3 (s : State) (Z : State) (a : Addr) (nd : Int32) (x : Int32) (ui : Addr) (kui : ClassId) (vi : List Value) (uf : Addr) (kuf : ClassId) (vf : List Value) (un : Addr) (kun : ClassId) (vn : List Value) (ch1 : Int32) (ch2 : Int32) (ch3 : Int32) (cv1 : Int32) (cv2 : Int32) (cv3 : Int32) (h0 : Heap) (n0 : Nat) : State → Outcome → Prop := fun U' o => ∃ v L, o = .returned v ∧ QrmCH_3 Z a nd x ui kui vi uf kuf vf un kun vn ch1 ch2 ch3 cv1 cv2 cv3 h0 n0 v U'.heap L ∧ FrameEnd s o U' L ({ frames := 0, cells := 0, slots := 0, locals := 0 } : Room).cells ({ frames := 0, cells := 0, slots := 0, locals := 0 } : Room).slots
set_option maxRecDepth 65536 in
set_option maxHeartbeats 40000000 in
theorem rmCH_3 (l : Launch) (Z : State) (a0 : Array Value) (hw : ∀ d ∈ tables_1, d.before a0 Z = true) (ws : List Jvm.Cond) (a : Addr) (nd : Int32) (x : Int32) (ui : Addr) (kui : ClassId) (vi : List Value) (uf : Addr) (kuf : ClassId) (vf : List Value) (un : Addr) (kun : ClassId) (vn : List Value) (ch1 : Int32) (ch2 : Int32) (ch3 : Int32) (cv1 : Int32) (cv2 : Int32) (cv3 : Int32) (h0 : Heap) (n0 : Nat) (Z0 : n0 ≤ h0.size) (Fi : Fld Z h0 a "com/example/percurso/percurso/suite/PrefixTree" "inputs" "[I" (.ref ui)) (Ff : Fld Z h0 a "com/example/percurso/percurso/suite/PrefixTree" "firstChildren" "[I" (.ref uf)) (Fn : Fld Z h0 a "com/example/percurso/percurso/suite/PrefixTree" "nextSiblings" "[I" (.ref un)) (Vi : Arv Z h0 ui kui .int 5 vi (.int 0)) (Vf : Arv Z h0 uf kuf .int 5 vf (.int 0)) (Vn : Arv Z h0 un kun .int 5 vn (.int 0)) (hbd : ¬ nd < 0 ∧ nd < 5) (hf : vf.getD nd.toNatClampNeg (.int 0) = .int ch1) (hb_0 : ¬ ch1 < 0 ∧ ch1 < 5) (hi_0 : vi.getD ch1.toNatClampNeg (.int 0) = .int cv1) (hn_0 : vn.getD ch1.toNatClampNeg (.int 0) = .int ch2) (hb_1 : ¬ ch2 < 0 ∧ ch2 < 5) (hi_1 : vi.getD ch2.toNatClampNeg (.int 0) = .int cv2) (hn_1 : vn.getD ch2.toNatClampNeg (.int 0) = .int ch3) (hb_2 : ¬ ch3 < 0 ∧ ch3 < 5) (hi_2 : vi.getD ch3.toNatClampNeg (.int 0) = .int cv3) (hn_2 : vn.getD ch3.toNatClampNeg (.int 0) = .int (-1)) :
    MetFree l (⟨"com/example/percurso/percurso/suite/PrefixTree", "child", "(II)I"⟩ : MethodName) (head1 (Jvm.Cond.code (⟨"com/example/percurso/percurso/suite/PrefixTree", "child", "(II)I"⟩ : MethodName) prog_191_method_9_code 4 (some .int) :: ws) ({ frames := 0, cells := 0, slots := 0, locals := 0 } : Room)) (fun aa U => aa = #[(.ref a), (.int nd), (.int x)] ∧ Z.Warmed39 U.vm ∧ U.heap = h0) (fun _ _ _ _ _ => True) (fun _ U o U' => ∃ v L, o = .returned v ∧ QrmCH_3 Z a nd x ui kui vi uf kuf vf un kun vn ch1 ch2 ch3 cv1 cv2 cv3 h0 n0 v U'.heap L ∧ FrameEnd U o U' L ({ frames := 0, cells := 0, slots := 0, locals := 0 } : Room).cells ({ frames := 0, cells := 0, slots := 0, locals := 0 } : Room).slots) := by
  refine MetFree.of_bodySF (plainFor_of_name pn_6) hisR ?_
  intro p e s m args below meth c s₁ Bd hml0 hP hK
  obtain ⟨rfl, hZ, hh⟩ := hP
  have hx := Bd.exec
  have hlk : meth.locks = false := by first | exact BodyLoose.notSynchronized Bd | exact Body.notSynchronized Bd
  have hby := Bd.bytes
  have hml : c.maxLocals = 4 := hml0
  have hown : s.vm.findClass "com/example/percurso/percurso/suite/PrefixTree" = some m.cls := findClass_of_methodNamed Bd.named
  have hnm := (name_of_methodNamed Bd.named Bd.method).1
  have X0 : Stand p l e ({ frames := 0, cells := 0, slots := 0, locals := 0 } : Room) s m #[(.ref a), (.int nd), (.int x)] below meth c s₁ [] 0 0 := Stand.of_body Bd
  have e0 : s₁.heap = h0 := by rw [← hh, Bd.state]; rfl
  have N0 := Fr.nil n0
  show Done p e below (PrmCH_3 s Z a nd x ui kui vi uf kuf vf un kun vn ch1 ch2 ch3 cv1 cv2 cv3 h0 n0) (s₁.setTop (entryFrame m #[(.ref a), (.int nd), (.int x)] 4))
  refine Ds (B := s₁.setTop (mkF m 0 #[lR a, lI nd, lI x, lU] [])) (fun _ k => castTop (ef_rmCH_3 m a nd x) k) ?_
  refine Ds (B := s₁.setTop (mkF m 1 #[lR a, lI nd, lI x, lU] [(.ref a)])) (fun _ k => XS.aloadN X0.here hx rfl (hb hby d21_0) rfl rfl k) ?_
  obtain ⟨T1, X1, e1, st1⟩ := getF X0 hx hZ hown (host := "") (Or.inl (hw _ mm126)) Via.refl e0 Ff (g := (mkF m 1 #[lR a, lI nd, lI x, lU] [(.ref a)])) rfl rfl (hb hby d21_1)
  refine Ds (B := T1.setTop (mkF m 4 #[lR a, lI nd, lI x, lU] [(.ref uf)])) (fun _ k => st1 _ k) ?_
  refine Ds (B := T1.setTop (mkF m 5 #[lR a, lI nd, lI x, lU] [(.int nd), (.ref uf)])) (fun _ k => XS.iloadN X1.here hx rfl (hb hby d21_4) rfl k) ?_
  obtain ⟨cl2, Ar2, q2, S2, M2, H2, G2⟩ := id Vf
  have hin2 : ¬ (nd < 0 ∨ cl2.slots.size ≤ (nd).toNatClampNeg) := inb_of S2 hbd
  have hat2 : cl2.slots[(nd).toNatClampNeg]? = some (.int ch1) := Has.at H2 hin2 hf
  refine Ds (B := T1.setTop (mkF m 6 #[lR a, lI nd, lI x, lU] [(.int ch1)])) (fun _ k => X1.iaload hx (j := nd) (v := (.int ch1)) (by rw [e1]; exact Ar2.1) (State.isArrayOf_alike hZ.alike Ar2.2.1) Ar2.2.2 hin2 hat2 (g := (mkF m 5 #[lR a, lI nd, lI x, lU] [(.int nd), (.ref uf)])) rfl rfl (hb hby d21_5) _ k) ?_
  refine Ds (B := T1.setTop (mkF m 13 #[lR a, lI nd, lI x, lI ch1] [(.ref a)])) (fun _ k => XS.istoreN X1.here hx rfl (hb hby d21_6) rfl (l' := #[lR a, lI nd, lI x, lI ch1]) rfl (XS.iloadN X1.here hx rfl (hb hby d21_7) rfl (XS.iconst X1.here hx rfl (hb hby d21_8) (XS.icmpNo X1.here hx rfl (hb hby d21_9) rfl (feq (own_nm1 hb_0)).1 (XS.aloadN X1.here hx rfl (hb hby d21_12) rfl rfl k))))) ?_
  obtain ⟨T3, X3, e3, st3⟩ := getF X1 hx hZ hown (host := "") (Or.inl (hw _ mm122)) Via.refl e1 Fi (g := (mkF m 13 #[lR a, lI nd, lI x, lI ch1] [(.ref a)])) rfl rfl (hb hby d21_13)
  refine Ds (B := T3.setTop (mkF m 16 #[lR a, lI nd, lI x, lI ch1] [(.ref ui)])) (fun _ k => st3 _ k) ?_
  refine Ds (B := T3.setTop (mkF m 17 #[lR a, lI nd, lI x, lI ch1] [(.int ch1), (.ref ui)])) (fun _ k => XS.iloadN X3.here hx rfl (hb hby d21_16) rfl k) ?_
  obtain ⟨cl4, Ar4, q4, S4, M4, H4, G4⟩ := id Vi
  have hin4 : ¬ (ch1 < 0 ∨ cl4.slots.size ≤ (ch1).toNatClampNeg) := inb_of S4 hb_0
  have hat4 : cl4.slots[(ch1).toNatClampNeg]? = some (.int cv1) := Has.at H4 hin4 hi_0
  refine Ds (B := T3.setTop (mkF m 18 #[lR a, lI nd, lI x, lI ch1] [(.int cv1)])) (fun _ k => X3.iaload hx (j := ch1) (v := (.int cv1)) (by rw [e3]; exact Ar4.1) (State.isArrayOf_alike hZ.alike Ar4.2.1) Ar4.2.2 hin4 hat4 (g := (mkF m 17 #[lR a, lI nd, lI x, lI ch1] [(.int ch1), (.ref ui)])) rfl rfl (hb hby d21_17) _ k) ?_
  refine Ds (B := T3.setTop (mkF m 19 #[lR a, lI nd, lI x, lI ch1] [(.int x), (.int cv1)])) (fun _ k => XS.iloadN X3.here hx rfl (hb hby d21_18) rfl k) ?_
  by_cases hc19 : cv1 < x
  · refine Ds (B := T3.setTop (mkF m 39 #[lR a, lI nd, lI x, lI ch1] [(.ref a)])) (fun _ k => XS.icmpYes X3.here hx rfl (pc0 := 19) (pc' := 38) rfl (hb hby d21_19) rfl (tlt hc19).1 (by decide) (by decide) (XS.aloadN X3.here hx rfl (hb hby d21_38) rfl rfl k)) ?_
    obtain ⟨T5, X5, e5, st5⟩ := getF X3 hx hZ hown (host := "") (Or.inl (hw _ mm128)) Via.refl e3 Fn (g := (mkF m 39 #[lR a, lI nd, lI x, lI ch1] [(.ref a)])) rfl rfl (hb hby d21_39)
    refine Ds (B := T5.setTop (mkF m 42 #[lR a, lI nd, lI x, lI ch1] [(.ref un)])) (fun _ k => st5 _ k) ?_
    refine Ds (B := T5.setTop (mkF m 43 #[lR a, lI nd, lI x, lI ch1] [(.int ch1), (.ref un)])) (fun _ k => XS.iloadN X5.here hx rfl (hb hby d21_42) rfl k) ?_
    obtain ⟨cl6, Ar6, q6, S6, M6, H6, G6⟩ := id Vn
    have hin6 : ¬ (ch1 < 0 ∨ cl6.slots.size ≤ (ch1).toNatClampNeg) := inb_of S6 hb_0
    have hat6 : cl6.slots[(ch1).toNatClampNeg]? = some (.int ch2) := Has.at H6 hin6 hn_0
    refine Ds (B := T5.setTop (mkF m 44 #[lR a, lI nd, lI x, lI ch1] [(.int ch2)])) (fun _ k => X5.iaload hx (j := ch1) (v := (.int ch2)) (by rw [e5]; exact Ar6.1) (State.isArrayOf_alike hZ.alike Ar6.2.1) Ar6.2.2 hin6 hat6 (g := (mkF m 43 #[lR a, lI nd, lI x, lI ch1] [(.int ch1), (.ref un)])) rfl rfl (hb hby d21_43) _ k) ?_
    refine Ds (B := T5.setTop (mkF m 13 #[lR a, lI nd, lI x, lI ch2] [(.ref a)])) (fun _ k => XS.istoreN X5.here hx rfl (hb hby d21_44) rfl (l' := #[lR a, lI nd, lI x, lI ch2]) rfl (XS.goto X5.here hx rfl (pc0 := 45) (pc' := 7) rfl (hb hby d21_45) (by decide) (by decide) (XS.iloadN X5.here hx rfl (hb hby d21_7) rfl (XS.iconst X5.here hx rfl (hb hby d21_8) (XS.icmpNo X5.here hx rfl (hb hby d21_9) rfl (feq (own_nm1 hb_1)).1 (XS.aloadN X5.here hx rfl (hb hby d21_12) rfl rfl k)))))) ?_
    obtain ⟨T7, X7, e7, st7⟩ := getF X5 hx hZ hown (host := "") (Or.inl (hw _ mm122)) Via.refl e5 Fi (g := (mkF m 13 #[lR a, lI nd, lI x, lI ch2] [(.ref a)])) rfl rfl (hb hby d21_13)
    refine Ds (B := T7.setTop (mkF m 16 #[lR a, lI nd, lI x, lI ch2] [(.ref ui)])) (fun _ k => st7 _ k) ?_
    refine Ds (B := T7.setTop (mkF m 17 #[lR a, lI nd, lI x, lI ch2] [(.int ch2), (.ref ui)])) (fun _ k => XS.iloadN X7.here hx rfl (hb hby d21_16) rfl k) ?_
    obtain ⟨cl8, Ar8, q8, S8, M8, H8, G8⟩ := id Vi
    have hin8 : ¬ (ch2 < 0 ∨ cl8.slots.size ≤ (ch2).toNatClampNeg) := inb_of S8 hb_1
    have hat8 : cl8.slots[(ch2).toNatClampNeg]? = some (.int cv2) := Has.at H8 hin8 hi_1
    refine Ds (B := T7.setTop (mkF m 18 #[lR a, lI nd, lI x, lI ch2] [(.int cv2)])) (fun _ k => X7.iaload hx (j := ch2) (v := (.int cv2)) (by rw [e7]; exact Ar8.1) (State.isArrayOf_alike hZ.alike Ar8.2.1) Ar8.2.2 hin8 hat8 (g := (mkF m 17 #[lR a, lI nd, lI x, lI ch2] [(.int ch2), (.ref ui)])) rfl rfl (hb hby d21_17) _ k) ?_
    refine Ds (B := T7.setTop (mkF m 19 #[lR a, lI nd, lI x, lI ch2] [(.int x), (.int cv2)])) (fun _ k => XS.iloadN X7.here hx rfl (hb hby d21_18) rfl k) ?_
    by_cases hc19' : cv2 < x
    · refine Ds (B := T7.setTop (mkF m 39 #[lR a, lI nd, lI x, lI ch2] [(.ref a)])) (fun _ k => XS.icmpYes X7.here hx rfl (pc0 := 19) (pc' := 38) rfl (hb hby d21_19) rfl (tlt (hc19')).1 (by decide) (by decide) (XS.aloadN X7.here hx rfl (hb hby d21_38) rfl rfl k)) ?_
      obtain ⟨T9, X9, e9, st9⟩ := getF X7 hx hZ hown (host := "") (Or.inl (hw _ mm128)) Via.refl e7 Fn (g := (mkF m 39 #[lR a, lI nd, lI x, lI ch2] [(.ref a)])) rfl rfl (hb hby d21_39)
      refine Ds (B := T9.setTop (mkF m 42 #[lR a, lI nd, lI x, lI ch2] [(.ref un)])) (fun _ k => st9 _ k) ?_
      refine Ds (B := T9.setTop (mkF m 43 #[lR a, lI nd, lI x, lI ch2] [(.int ch2), (.ref un)])) (fun _ k => XS.iloadN X9.here hx rfl (hb hby d21_42) rfl k) ?_
      obtain ⟨cl10, Ar10, q10, S10, M10, H10, G10⟩ := id Vn
      have hin10 : ¬ (ch2 < 0 ∨ cl10.slots.size ≤ (ch2).toNatClampNeg) := inb_of S10 hb_1
      have hat10 : cl10.slots[(ch2).toNatClampNeg]? = some (.int ch3) := Has.at H10 hin10 hn_1
      refine Ds (B := T9.setTop (mkF m 44 #[lR a, lI nd, lI x, lI ch2] [(.int ch3)])) (fun _ k => X9.iaload hx (j := ch2) (v := (.int ch3)) (by rw [e9]; exact Ar10.1) (State.isArrayOf_alike hZ.alike Ar10.2.1) Ar10.2.2 hin10 hat10 (g := (mkF m 43 #[lR a, lI nd, lI x, lI ch2] [(.int ch2), (.ref un)])) rfl rfl (hb hby d21_43) _ k) ?_
      refine Ds (B := T9.setTop (mkF m 13 #[lR a, lI nd, lI x, lI ch3] [(.ref a)])) (fun _ k => XS.istoreN X9.here hx rfl (hb hby d21_44) rfl (l' := #[lR a, lI nd, lI x, lI ch3]) rfl (XS.goto X9.here hx rfl (pc0 := 45) (pc' := 7) rfl (hb hby d21_45) (by decide) (by decide) (XS.iloadN X9.here hx rfl (hb hby d21_7) rfl (XS.iconst X9.here hx rfl (hb hby d21_8) (XS.icmpNo X9.here hx rfl (hb hby d21_9) rfl (feq (own_nm1 hb_2)).1 (XS.aloadN X9.here hx rfl (hb hby d21_12) rfl rfl k)))))) ?_
      obtain ⟨T11, X11, e11, st11⟩ := getF X9 hx hZ hown (host := "") (Or.inl (hw _ mm122)) Via.refl e9 Fi (g := (mkF m 13 #[lR a, lI nd, lI x, lI ch3] [(.ref a)])) rfl rfl (hb hby d21_13)
      refine Ds (B := T11.setTop (mkF m 16 #[lR a, lI nd, lI x, lI ch3] [(.ref ui)])) (fun _ k => st11 _ k) ?_
      refine Ds (B := T11.setTop (mkF m 17 #[lR a, lI nd, lI x, lI ch3] [(.int ch3), (.ref ui)])) (fun _ k => XS.iloadN X11.here hx rfl (hb hby d21_16) rfl k) ?_
      obtain ⟨cl12, Ar12, q12, S12, M12, H12, G12⟩ := id Vi
      have hin12 : ¬ (ch3 < 0 ∨ cl12.slots.size ≤ (ch3).toNatClampNeg) := inb_of S12 hb_2
      have hat12 : cl12.slots[(ch3).toNatClampNeg]? = some (.int cv3) := Has.at H12 hin12 hi_2
      refine Ds (B := T11.setTop (mkF m 18 #[lR a, lI nd, lI x, lI ch3] [(.int cv3)])) (fun _ k => X11.iaload hx (j := ch3) (v := (.int cv3)) (by rw [e11]; exact Ar12.1) (State.isArrayOf_alike hZ.alike Ar12.2.1) Ar12.2.2 hin12 hat12 (g := (mkF m 17 #[lR a, lI nd, lI x, lI ch3] [(.int ch3), (.ref ui)])) rfl rfl (hb hby d21_17) _ k) ?_
      refine Ds (B := T11.setTop (mkF m 19 #[lR a, lI nd, lI x, lI ch3] [(.int x), (.int cv3)])) (fun _ k => XS.iloadN X11.here hx rfl (hb hby d21_18) rfl k) ?_
      by_cases hc19'' : cv3 < x
      · refine Ds (B := T11.setTop (mkF m 39 #[lR a, lI nd, lI x, lI ch3] [(.ref a)])) (fun _ k => XS.icmpYes X11.here hx rfl (pc0 := 19) (pc' := 38) rfl (hb hby d21_19) rfl (tlt (hc19'')).1 (by decide) (by decide) (XS.aloadN X11.here hx rfl (hb hby d21_38) rfl rfl k)) ?_
        obtain ⟨T13, X13, e13, st13⟩ := getF X11 hx hZ hown (host := "") (Or.inl (hw _ mm128)) Via.refl e11 Fn (g := (mkF m 39 #[lR a, lI nd, lI x, lI ch3] [(.ref a)])) rfl rfl (hb hby d21_39)
        refine Ds (B := T13.setTop (mkF m 42 #[lR a, lI nd, lI x, lI ch3] [(.ref un)])) (fun _ k => st13 _ k) ?_
        refine Ds (B := T13.setTop (mkF m 43 #[lR a, lI nd, lI x, lI ch3] [(.int ch3), (.ref un)])) (fun _ k => XS.iloadN X13.here hx rfl (hb hby d21_42) rfl k) ?_
        obtain ⟨cl14, Ar14, q14, S14, M14, H14, G14⟩ := id Vn
        have hin14 : ¬ (ch3 < 0 ∨ cl14.slots.size ≤ (ch3).toNatClampNeg) := inb_of S14 hb_2
        have hat14 : cl14.slots[(ch3).toNatClampNeg]? = some (.int (-1)) := Has.at H14 hin14 hn_2
        refine Ds (B := T13.setTop (mkF m 44 #[lR a, lI nd, lI x, lI ch3] [(.int (-1))])) (fun _ k => X13.iaload hx (j := ch3) (v := (.int (-1))) (by rw [e13]; exact Ar14.1) (State.isArrayOf_alike hZ.alike Ar14.2.1) Ar14.2.2 hin14 hat14 (g := (mkF m 43 #[lR a, lI nd, lI x, lI ch3] [(.int ch3), (.ref un)])) rfl rfl (hb hby d21_43) _ k) ?_
        refine Ds (B := T13.setTop (mkF m 49 #[lR a, lI nd, lI x, lI (-1)] [(.int (-1))])) (fun _ k => XS.istoreN X13.here hx rfl (hb hby d21_44) rfl (l' := #[lR a, lI nd, lI x, lI (-1)]) rfl (XS.goto X13.here hx rfl (pc0 := 45) (pc' := 7) rfl (hb hby d21_45) (by decide) (by decide) (XS.iloadN X13.here hx rfl (hb hby d21_7) rfl (XS.iconst X13.here hx rfl (hb hby d21_8) (XS.icmpYes X13.here hx rfl (pc0 := 9) (pc' := 48) rfl (hb hby d21_9) rfl (teq (rfl : (-1 : Int32) = (-1 : Int32))).1 (by decide) (by decide) (XS.iconst X13.here hx rfl (hb hby d21_48) k)))))) ?_
        obtain ⟨fs, hr, hrun, hended, hW, hsame⟩ := X13.leave (v := some (.int (-1))) (hlocks := hlk) (fun h => by rw [Bd.returns] at h; cases h)
        refine Done.fin (retI X13 hx Bd.returns (hb hby d21_49) hr) hrun hended ⟨_, _, rfl, ?_, ⟨_, rfl⟩, hW, hsame.mono (by decide) (by decide)⟩
        show QrmCH_3 Z a nd x ui kui vi uf kuf vf un kun vn ch1 ch2 ch3 cv1 cv2 cv3 h0 n0 _ T13.heap _
        rw [e13]
        exact ⟨congrArg (fun z => some (Value.int z)) (Eq.symm (own_find_lt hc19 (own_find_lt hc19' (own_find_lt hc19'' rfl)))), N0, rfl⟩
      · refine Ds (B := T11.setTop (mkF m 23 #[lR a, lI nd, lI x, lI ch3] [(.ref a)])) (fun _ k => XS.icmpNo X11.here hx rfl (hb hby d21_19) rfl (flt (hc19'')).1 (XS.aloadN X11.here hx rfl (hb hby d21_22) rfl rfl k)) ?_
        obtain ⟨T16, X16, e16, st16⟩ := getF X11 hx hZ hown (host := "") (Or.inl (hw _ mm122)) Via.refl e11 Fi (g := (mkF m 23 #[lR a, lI nd, lI x, lI ch3] [(.ref a)])) rfl rfl (hb hby d21_23)
        refine Ds (B := T16.setTop (mkF m 26 #[lR a, lI nd, lI x, lI ch3] [(.ref ui)])) (fun _ k => st16 _ k) ?_
        refine Ds (B := T16.setTop (mkF m 27 #[lR a, lI nd, lI x, lI ch3] [(.int ch3), (.ref ui)])) (fun _ k => XS.iloadN X16.here hx rfl (hb hby d21_26) rfl k) ?_
        obtain ⟨cl17, Ar17, q17, S17, M17, H17, G17⟩ := id Vi
        have hin17 : ¬ (ch3 < 0 ∨ cl17.slots.size ≤ (ch3).toNatClampNeg) := inb_of S17 hb_2
        have hat17 : cl17.slots[(ch3).toNatClampNeg]? = some (.int cv3) := Has.at H17 hin17 hi_2
        refine Ds (B := T16.setTop (mkF m 28 #[lR a, lI nd, lI x, lI ch3] [(.int cv3)])) (fun _ k => X16.iaload hx (j := ch3) (v := (.int cv3)) (by rw [e16]; exact Ar17.1) (State.isArrayOf_alike hZ.alike Ar17.2.1) Ar17.2.2 hin17 hat17 (g := (mkF m 27 #[lR a, lI nd, lI x, lI ch3] [(.int ch3), (.ref ui)])) rfl rfl (hb hby d21_27) _ k) ?_
        refine Ds (B := T16.setTop (mkF m 29 #[lR a, lI nd, lI x, lI ch3] [(.int x), (.int cv3)])) (fun _ k => XS.iloadN X16.here hx rfl (hb hby d21_28) rfl k) ?_
        by_cases hc29 : cv3 = x
        · refine Ds (B := T16.setTop (mkF m 37 #[lR a, lI nd, lI x, lI ch3] [(.int ch3)])) (fun _ k => XS.icmpNo X16.here hx rfl (hb hby d21_29) rfl (teq hc29).2 (XS.iloadN X16.here hx rfl (hb hby d21_32) rfl (XS.goto X16.here hx rfl (pc0 := 33) (pc' := 37) rfl (hb hby d21_33) (by decide) (by decide) k))) ?_
          obtain ⟨fs, hr, hrun, hended, hW, hsame⟩ := X16.leave (v := some (.int ch3)) (hlocks := hlk) (fun h => by rw [Bd.returns] at h; cases h)
          refine Done.fin (retI X16 hx Bd.returns (hb hby d21_37) hr) hrun hended ⟨_, _, rfl, ?_, ⟨_, rfl⟩, hW, hsame.mono (by decide) (by decide)⟩
          show QrmCH_3 Z a nd x ui kui vi uf kuf vf un kun vn ch1 ch2 ch3 cv1 cv2 cv3 h0 n0 _ T16.heap _
          rw [e16]
          exact ⟨congrArg (fun z => some (Value.int z)) (Eq.symm (own_find_lt hc19 (own_find_lt hc19' (own_find_eq hc29)))), N0, rfl⟩
        · refine Ds (B := T16.setTop (mkF m 37 #[lR a, lI nd, lI x, lI ch3] [(.int (-1))])) (fun _ k => XS.icmpYes X16.here hx rfl (pc0 := 29) (pc' := 36) rfl (hb hby d21_29) rfl (feq hc29).2 (by decide) (by decide) (XS.iconst X16.here hx rfl (hb hby d21_36) k)) ?_
          obtain ⟨fs, hr, hrun, hended, hW, hsame⟩ := X16.leave (v := some (.int (-1))) (hlocks := hlk) (fun h => by rw [Bd.returns] at h; cases h)
          refine Done.fin (retI X16 hx Bd.returns (hb hby d21_37) hr) hrun hended ⟨_, _, rfl, ?_, ⟨_, rfl⟩, hW, hsame.mono (by decide) (by decide)⟩
          show QrmCH_3 Z a nd x ui kui vi uf kuf vf un kun vn ch1 ch2 ch3 cv1 cv2 cv3 h0 n0 _ T16.heap _
          rw [e16]
          exact ⟨congrArg (fun z => some (Value.int z)) (Eq.symm (own_find_lt hc19 (own_find_lt hc19' (own_find_no hc19'' hc29)))), N0, rfl⟩
    · refine Ds (B := T7.setTop (mkF m 23 #[lR a, lI nd, lI x, lI ch2] [(.ref a)])) (fun _ k => XS.icmpNo X7.here hx rfl (hb hby d21_19) rfl (flt (hc19')).1 (XS.aloadN X7.here hx rfl (hb hby d21_22) rfl rfl k)) ?_
      obtain ⟨T20, X20, e20, st20⟩ := getF X7 hx hZ hown (host := "") (Or.inl (hw _ mm122)) Via.refl e7 Fi (g := (mkF m 23 #[lR a, lI nd, lI x, lI ch2] [(.ref a)])) rfl rfl (hb hby d21_23)
      refine Ds (B := T20.setTop (mkF m 26 #[lR a, lI nd, lI x, lI ch2] [(.ref ui)])) (fun _ k => st20 _ k) ?_
      refine Ds (B := T20.setTop (mkF m 27 #[lR a, lI nd, lI x, lI ch2] [(.int ch2), (.ref ui)])) (fun _ k => XS.iloadN X20.here hx rfl (hb hby d21_26) rfl k) ?_
      obtain ⟨cl21, Ar21, q21, S21, M21, H21, G21⟩ := id Vi
      have hin21 : ¬ (ch2 < 0 ∨ cl21.slots.size ≤ (ch2).toNatClampNeg) := inb_of S21 hb_1
      have hat21 : cl21.slots[(ch2).toNatClampNeg]? = some (.int cv2) := Has.at H21 hin21 hi_1
      refine Ds (B := T20.setTop (mkF m 28 #[lR a, lI nd, lI x, lI ch2] [(.int cv2)])) (fun _ k => X20.iaload hx (j := ch2) (v := (.int cv2)) (by rw [e20]; exact Ar21.1) (State.isArrayOf_alike hZ.alike Ar21.2.1) Ar21.2.2 hin21 hat21 (g := (mkF m 27 #[lR a, lI nd, lI x, lI ch2] [(.int ch2), (.ref ui)])) rfl rfl (hb hby d21_27) _ k) ?_
      refine Ds (B := T20.setTop (mkF m 29 #[lR a, lI nd, lI x, lI ch2] [(.int x), (.int cv2)])) (fun _ k => XS.iloadN X20.here hx rfl (hb hby d21_28) rfl k) ?_
      by_cases hc29 : cv2 = x
      · refine Ds (B := T20.setTop (mkF m 37 #[lR a, lI nd, lI x, lI ch2] [(.int ch2)])) (fun _ k => XS.icmpNo X20.here hx rfl (hb hby d21_29) rfl (teq hc29).2 (XS.iloadN X20.here hx rfl (hb hby d21_32) rfl (XS.goto X20.here hx rfl (pc0 := 33) (pc' := 37) rfl (hb hby d21_33) (by decide) (by decide) k))) ?_
        obtain ⟨fs, hr, hrun, hended, hW, hsame⟩ := X20.leave (v := some (.int ch2)) (hlocks := hlk) (fun h => by rw [Bd.returns] at h; cases h)
        refine Done.fin (retI X20 hx Bd.returns (hb hby d21_37) hr) hrun hended ⟨_, _, rfl, ?_, ⟨_, rfl⟩, hW, hsame.mono (by decide) (by decide)⟩
        show QrmCH_3 Z a nd x ui kui vi uf kuf vf un kun vn ch1 ch2 ch3 cv1 cv2 cv3 h0 n0 _ T20.heap _
        rw [e20]
        exact ⟨congrArg (fun z => some (Value.int z)) (Eq.symm (own_find_lt hc19 (own_find_eq hc29))), N0, rfl⟩
      · refine Ds (B := T20.setTop (mkF m 37 #[lR a, lI nd, lI x, lI ch2] [(.int (-1))])) (fun _ k => XS.icmpYes X20.here hx rfl (pc0 := 29) (pc' := 36) rfl (hb hby d21_29) rfl (feq hc29).2 (by decide) (by decide) (XS.iconst X20.here hx rfl (hb hby d21_36) k)) ?_
        obtain ⟨fs, hr, hrun, hended, hW, hsame⟩ := X20.leave (v := some (.int (-1))) (hlocks := hlk) (fun h => by rw [Bd.returns] at h; cases h)
        refine Done.fin (retI X20 hx Bd.returns (hb hby d21_37) hr) hrun hended ⟨_, _, rfl, ?_, ⟨_, rfl⟩, hW, hsame.mono (by decide) (by decide)⟩
        show QrmCH_3 Z a nd x ui kui vi uf kuf vf un kun vn ch1 ch2 ch3 cv1 cv2 cv3 h0 n0 _ T20.heap _
        rw [e20]
        exact ⟨congrArg (fun z => some (Value.int z)) (Eq.symm (own_find_lt hc19 (own_find_no hc19' hc29))), N0, rfl⟩
  · refine Ds (B := T3.setTop (mkF m 23 #[lR a, lI nd, lI x, lI ch1] [(.ref a)])) (fun _ k => XS.icmpNo X3.here hx rfl (hb hby d21_19) rfl (flt hc19).1 (XS.aloadN X3.here hx rfl (hb hby d21_22) rfl rfl k)) ?_
    obtain ⟨T24, X24, e24, st24⟩ := getF X3 hx hZ hown (host := "") (Or.inl (hw _ mm122)) Via.refl e3 Fi (g := (mkF m 23 #[lR a, lI nd, lI x, lI ch1] [(.ref a)])) rfl rfl (hb hby d21_23)
    refine Ds (B := T24.setTop (mkF m 26 #[lR a, lI nd, lI x, lI ch1] [(.ref ui)])) (fun _ k => st24 _ k) ?_
    refine Ds (B := T24.setTop (mkF m 27 #[lR a, lI nd, lI x, lI ch1] [(.int ch1), (.ref ui)])) (fun _ k => XS.iloadN X24.here hx rfl (hb hby d21_26) rfl k) ?_
    obtain ⟨cl25, Ar25, q25, S25, M25, H25, G25⟩ := id Vi
    have hin25 : ¬ (ch1 < 0 ∨ cl25.slots.size ≤ (ch1).toNatClampNeg) := inb_of S25 hb_0
    have hat25 : cl25.slots[(ch1).toNatClampNeg]? = some (.int cv1) := Has.at H25 hin25 hi_0
    refine Ds (B := T24.setTop (mkF m 28 #[lR a, lI nd, lI x, lI ch1] [(.int cv1)])) (fun _ k => X24.iaload hx (j := ch1) (v := (.int cv1)) (by rw [e24]; exact Ar25.1) (State.isArrayOf_alike hZ.alike Ar25.2.1) Ar25.2.2 hin25 hat25 (g := (mkF m 27 #[lR a, lI nd, lI x, lI ch1] [(.int ch1), (.ref ui)])) rfl rfl (hb hby d21_27) _ k) ?_
    refine Ds (B := T24.setTop (mkF m 29 #[lR a, lI nd, lI x, lI ch1] [(.int x), (.int cv1)])) (fun _ k => XS.iloadN X24.here hx rfl (hb hby d21_28) rfl k) ?_
    by_cases hc29 : cv1 = x
    · refine Ds (B := T24.setTop (mkF m 37 #[lR a, lI nd, lI x, lI ch1] [(.int ch1)])) (fun _ k => XS.icmpNo X24.here hx rfl (hb hby d21_29) rfl (teq hc29).2 (XS.iloadN X24.here hx rfl (hb hby d21_32) rfl (XS.goto X24.here hx rfl (pc0 := 33) (pc' := 37) rfl (hb hby d21_33) (by decide) (by decide) k))) ?_
      obtain ⟨fs, hr, hrun, hended, hW, hsame⟩ := X24.leave (v := some (.int ch1)) (hlocks := hlk) (fun h => by rw [Bd.returns] at h; cases h)
      refine Done.fin (retI X24 hx Bd.returns (hb hby d21_37) hr) hrun hended ⟨_, _, rfl, ?_, ⟨_, rfl⟩, hW, hsame.mono (by decide) (by decide)⟩
      show QrmCH_3 Z a nd x ui kui vi uf kuf vf un kun vn ch1 ch2 ch3 cv1 cv2 cv3 h0 n0 _ T24.heap _
      rw [e24]
      exact ⟨congrArg (fun z => some (Value.int z)) (Eq.symm (own_find_eq hc29)), N0, rfl⟩
    · refine Ds (B := T24.setTop (mkF m 37 #[lR a, lI nd, lI x, lI ch1] [(.int (-1))])) (fun _ k => XS.icmpYes X24.here hx rfl (pc0 := 29) (pc' := 36) rfl (hb hby d21_29) rfl (feq hc29).2 (by decide) (by decide) (XS.iconst X24.here hx rfl (hb hby d21_36) k)) ?_
      obtain ⟨fs, hr, hrun, hended, hW, hsame⟩ := X24.leave (v := some (.int (-1))) (hlocks := hlk) (fun h => by rw [Bd.returns] at h; cases h)
      refine Done.fin (retI X24 hx Bd.returns (hb hby d21_37) hr) hrun hended ⟨_, _, rfl, ?_, ⟨_, rfl⟩, hW, hsame.mono (by decide) (by decide)⟩
      show QrmCH_3 Z a nd x ui kui vi uf kuf vf un kun vn ch1 ch2 ch3 cv1 cv2 cv3 h0 n0 _ T24.heap _
      rw [e24]
      exact ⟨congrArg (fun z => some (Value.int z)) (Eq.symm (own_find_no hc19 hc29)), N0, rfl⟩
theorem ef_rmLK_0 (m : MethodId) (a : Addr) (x : Int32) : entryFrame m #[(.ref a), (.int 0), (.int x), (.int 1), (.int 1)] 7 = mkF m 0 #[lR a, lI 0, lI x, lI 1, lI 1, lU, lU] [] := by first | (simp [entryFrame, mkF, argsToLocals, Value.category]; done) | rfl
def QrmLK_0 (Z : State) (a : Addr) (x : Int32) (up : Addr) (kup : ClassId) (ui : Addr) (kui : ClassId) (ud : Addr) (kud : ClassId) (uf : Addr) (kuf : ClassId) (un : Addr) (kun : ClassId) (pp0 : Int32) (pp1 : Int32) (pp2 : Int32) (pp3 : Int32) (pp4 : Int32) (ii0 : Int32) (ii1 : Int32) (ii2 : Int32) (ii3 : Int32) (ii4 : Int32) (dd0 : Int32) (dd1 : Int32) (dd2 : Int32) (dd3 : Int32) (dd4 : Int32) (ff1 : Int32) (ff2 : Int32) (ff3 : Int32) (ff4 : Int32) (nn0 : Int32) (nn1 : Int32) (nn2 : Int32) (nn3 : Int32) (nn4 : Int32) (h0 : Heap) (n0 : Nat) (v : Option Value) (h : Heap) (L : List Loc) : Prop := v = none ∧ Fr n0 L ∧ Keep h0 h [up, ui, ud, uf, un] ∧ ((Arv Z h up kup .int 5 [(.int pp0), (.int 0), (.int pp2), (.int pp3), (.int pp4)] (.int 0) ∧ Arv Z h ui kui .int 5 [(.int ii0), (.int x), (.int ii2), (.int ii3), (.int ii4)] (.int 0) ∧ Arv Z h ud kud .int 5 [(.int dd0), (.int 1), (.int dd2), (.int dd3), (.int dd4)] (.int 0) ∧ Arv Z h uf kuf .int 5 [(.int 1), (.int (-1)), (.int ff2), (.int ff3), (.int ff4)] (.int 0) ∧ Arv Z h un kun .int 5 [(.int nn0), (.int (-1)), (.int nn2), (.int nn3), (.int nn4)] (.int 0)))
def PrmLK_0 (s : State) (Z : State) (a : Addr) (x : Int32) (up : Addr) (kup : ClassId) (ui : Addr) (kui : ClassId) (ud : Addr) (kud : ClassId) (uf : Addr) (kuf : ClassId) (un : Addr) (kun : ClassId) (pp0 : Int32) (pp1 : Int32) (pp2 : Int32) (pp3 : Int32) (pp4 : Int32) (ii0 : Int32) (ii1 : Int32) (ii2 : Int32) (ii3 : Int32) (ii4 : Int32) (dd0 : Int32) (dd1 : Int32) (dd2 : Int32) (dd3 : Int32) (dd4 : Int32) (ff1 : Int32) (ff2 : Int32) (ff3 : Int32) (ff4 : Int32) (nn0 : Int32) (nn1 : Int32) (nn2 : Int32) (nn3 : Int32) (nn4 : Int32) (h0 : Heap) (n0 : Nat) : State → Outcome → Prop := fun U' o => ∃ v L, o = .returned v ∧ QrmLK_0 Z a x up kup ui kui ud kud uf kuf un kun pp0 pp1 pp2 pp3 pp4 ii0 ii1 ii2 ii3 ii4 dd0 dd1 dd2 dd3 dd4 ff1 ff2 ff3 ff4 nn0 nn1 nn2 nn3 nn4 h0 n0 v U'.heap L ∧ FrameEnd s o U' L ({ frames := 0, cells := 0, slots := 0, locals := 0 } : Room).cells ({ frames := 0, cells := 0, slots := 0, locals := 0 } : Room).slots
set_option maxRecDepth 65536 in
set_option maxHeartbeats 40000000 in
theorem rmLK_0 (l : Launch) (Z : State) (a0 : Array Value) (hw : ∀ d ∈ tables_1, d.before a0 Z = true) (ws : List Jvm.Cond) (a : Addr) (x : Int32) (up : Addr) (kup : ClassId) (ui : Addr) (kui : ClassId) (ud : Addr) (kud : ClassId) (uf : Addr) (kuf : ClassId) (un : Addr) (kun : ClassId) (pp0 : Int32) (pp1 : Int32) (pp2 : Int32) (pp3 : Int32) (pp4 : Int32) (ii0 : Int32) (ii1 : Int32) (ii2 : Int32) (ii3 : Int32) (ii4 : Int32) (dd0 : Int32) (dd1 : Int32) (dd2 : Int32) (dd3 : Int32) (dd4 : Int32) (ff1 : Int32) (ff2 : Int32) (ff3 : Int32) (ff4 : Int32) (nn0 : Int32) (nn1 : Int32) (nn2 : Int32) (nn3 : Int32) (nn4 : Int32) (h0 : Heap) (n0 : Nat) (Z0 : n0 ≤ h0.size) (F_parents : Fld Z h0 a "com/example/percurso/percurso/suite/PrefixTree" "parents" "[I" (.ref up)) (F_inputs : Fld Z h0 a "com/example/percurso/percurso/suite/PrefixTree" "inputs" "[I" (.ref ui)) (F_depths : Fld Z h0 a "com/example/percurso/percurso/suite/PrefixTree" "depths" "[I" (.ref ud)) (F_firstChildren : Fld Z h0 a "com/example/percurso/percurso/suite/PrefixTree" "firstChildren" "[I" (.ref uf)) (F_nextSiblings : Fld Z h0 a "com/example/percurso/percurso/suite/PrefixTree" "nextSiblings" "[I" (.ref un)) (V_parents : Arv Z h0 up kup .int 5 [(.int pp0), (.int pp1), (.int pp2), (.int pp3), (.int pp4)] (.int 0)) (V_inputs : Arv Z h0 ui kui .int 5 [(.int ii0), (.int ii1), (.int ii2), (.int ii3), (.int ii4)] (.int 0)) (V_depths : Arv Z h0 ud kud .int 5 [(.int dd0), (.int dd1), (.int dd2), (.int dd3), (.int dd4)] (.int 0)) (V_firstChildren : Arv Z h0 uf kuf .int 5 [(.int (-1)), (.int ff1), (.int ff2), (.int ff3), (.int ff4)] (.int 0)) (V_nextSiblings : Arv Z h0 un kun .int 5 [(.int nn0), (.int nn1), (.int nn2), (.int nn3), (.int nn4)] (.int 0)) (g_up : n0 ≤ up) (g_ui : n0 ≤ ui) (g_ud : n0 ≤ ud) (g_uf : n0 ≤ uf) (g_un : n0 ≤ un) (ne_up_ui : up ≠ ui) (ne_up_ud : up ≠ ud) (ne_up_uf : up ≠ uf) (ne_up_un : up ≠ un) (ne_ui_ud : ui ≠ ud) (ne_ui_uf : ui ≠ uf) (ne_ui_un : ui ≠ un) (ne_ud_uf : ud ≠ uf) (ne_ud_un : ud ≠ un) (ne_uf_un : uf ≠ un) (ne_a_up : a ≠ up) (ne_a_ui : a ≠ ui) (ne_a_ud : a ≠ ud) (ne_a_uf : a ≠ uf) (ne_a_un : a ≠ un) :
    MetFree l (⟨"com/example/percurso/percurso/suite/PrefixTree", "link", "(IIII)V"⟩ : MethodName) (head1 (Jvm.Cond.code (⟨"com/example/percurso/percurso/suite/PrefixTree", "link", "(IIII)V"⟩ : MethodName) prog_191_method_2_code 7 none :: ws) ({ frames := 0, cells := 0, slots := 0, locals := 0 } : Room)) (fun aa U => aa = #[(.ref a), (.int 0), (.int x), (.int 1), (.int 1)] ∧ Z.Warmed39 U.vm ∧ U.heap = h0) (fun _ _ _ _ _ => True) (fun _ U o U' => ∃ v L, o = .returned v ∧ QrmLK_0 Z a x up kup ui kui ud kud uf kuf un kun pp0 pp1 pp2 pp3 pp4 ii0 ii1 ii2 ii3 ii4 dd0 dd1 dd2 dd3 dd4 ff1 ff2 ff3 ff4 nn0 nn1 nn2 nn3 nn4 h0 n0 v U'.heap L ∧ FrameEnd U o U' L ({ frames := 0, cells := 0, slots := 0, locals := 0 } : Room).cells ({ frames := 0, cells := 0, slots := 0, locals := 0 } : Room).slots) := by
  refine MetFree.of_bodySF (plainFor_of_name pn_6) hisR ?_
  intro p e s m args below meth c s₁ Bd hml0 hP hK
  obtain ⟨rfl, hZ, hh⟩ := hP
  have hx := Bd.exec
  have hlk : meth.locks = false := by first | exact BodyLoose.notSynchronized Bd | exact Body.notSynchronized Bd
  have hby := Bd.bytes
  have hml : c.maxLocals = 7 := hml0
  have hown : s.vm.findClass "com/example/percurso/percurso/suite/PrefixTree" = some m.cls := findClass_of_methodNamed Bd.named
  have hnm := (name_of_methodNamed Bd.named Bd.method).1
  have X0 : Stand p l e ({ frames := 0, cells := 0, slots := 0, locals := 0 } : Room) s m #[(.ref a), (.int 0), (.int x), (.int 1), (.int 1)] below meth c s₁ [] 0 0 := Stand.of_body Bd
  have e0 : s₁.heap = h0 := by rw [← hh, Bd.state]; rfl
  have N0 := Fr.nil n0
  show Done p e below (PrmLK_0 s Z a x up kup ui kui ud kud uf kuf un kun pp0 pp1 pp2 pp3 pp4 ii0 ii1 ii2 ii3 ii4 dd0 dd1 dd2 dd3 dd4 ff1 ff2 ff3 ff4 nn0 nn1 nn2 nn3 nn4 h0 n0) (s₁.setTop (entryFrame m #[(.ref a), (.int 0), (.int x), (.int 1), (.int 1)] 7))
  refine Ds (B := s₁.setTop (mkF m 0 #[lR a, lI 0, lI x, lI 1, lI 1, lU, lU] [])) (fun _ k => castTop (ef_rmLK_0 m a x) k) ?_
  refine Ds (B := s₁.setTop (mkF m 1 #[lR a, lI 0, lI x, lI 1, lI 1, lU, lU] [(.ref a)])) (fun _ k => XS.aloadN X0.here hx rfl (hb hby d22_0) rfl rfl k) ?_
  obtain ⟨T1, X1, e1, st1⟩ := getF X0 hx hZ hown (host := "") (Or.inl (hw _ mm120)) Via.refl e0 F_parents (g := (mkF m 1 #[lR a, lI 0, lI x, lI 1, lI 1, lU, lU] [(.ref a)])) rfl rfl (hb hby d22_1)
  refine Ds (B := T1.setTop (mkF m 4 #[lR a, lI 0, lI x, lI 1, lI 1, lU, lU] [(.ref up)])) (fun _ k => st1 _ k) ?_
  refine Ds (B := T1.setTop (mkF m 6 #[lR a, lI 0, lI x, lI 1, lI 1, lU, lU] [(.int 0), (.int 1), (.ref up)])) (fun _ k => XS.iloadN X1.here hx rfl (hb hby d22_4) rfl (XS.iloadN X1.here hx rfl (hb hby d22_5) rfl k)) ?_
  obtain ⟨cl2, Ar2, q2, S2, M2, H2, G2⟩ := id V_parents
  have hin2 : ¬ ((1 : Int32) < 0 ∨ cl2.slots.size ≤ ((1 : Int32)).toNatClampNeg) := inb_of S2 ⟨by decide, by decide⟩
  obtain ⟨T2, h2, X2, e2, W2, st2⟩ := stI X1 hx hZ e1 Ar2 (j := (1 : Int32)) hin2 (g := (mkF m 6 #[lR a, lI 0, lI x, lI 1, lI 1, lU, lU] [(.int 0), (.int 1), (.ref up)])) rfl rfl (hb hby d22_6)
  have V2 : Arv Z h2 up kup .int 5 [(.int pp0), (.int 0), (.int pp2), (.int pp3), (.int pp4)] (.int 0) := Arv.set Ar2 q2 S2 M2 H2 G2 rfl W2 1 rfl (Nat.le_of_ble_eq_true rfl)
  have N2 := Fr.snoc X2 N0 g_up
  have Z2 : n0 ≤ h2.size := Nat.le_trans Z0 (Keep.of_wr W2).1
  have KK2 : Keep h0 h2 [up, ui, ud, uf, un] := ((Keep.refl h0 [up, ui, ud, uf, un])).wr W2 (Or.inl (List.mem_of_getElem? (i := 0) rfl))
  refine Ds (B := T2.setTop (mkF m 7 #[lR a, lI 0, lI x, lI 1, lI 1, lU, lU] [])) (fun _ k => st2 _ k) ?_
  refine Ds (B := T2.setTop (mkF m 8 #[lR a, lI 0, lI x, lI 1, lI 1, lU, lU] [(.ref a)])) (fun _ k => XS.aloadN X2.here hx rfl (hb hby d22_7) rfl rfl k) ?_
  have c4 := (Fld.other W2 F_inputs (Or.inl ne_a_up))
  obtain ⟨T3, X3, e3, st3⟩ := getF X2 hx hZ hown (host := "") (Or.inl (hw _ mm122)) Via.refl e2 c4 (g := (mkF m 8 #[lR a, lI 0, lI x, lI 1, lI 1, lU, lU] [(.ref a)])) rfl rfl (hb hby d22_8)
  refine Ds (B := T3.setTop (mkF m 11 #[lR a, lI 0, lI x, lI 1, lI 1, lU, lU] [(.ref ui)])) (fun _ k => st3 _ k) ?_
  refine Ds (B := T3.setTop (mkF m 13 #[lR a, lI 0, lI x, lI 1, lI 1, lU, lU] [(.int x), (.int 1), (.ref ui)])) (fun _ k => XS.iloadN X3.here hx rfl (hb hby d22_11) rfl (XS.iloadN X3.here hx rfl (hb hby d22_12) rfl k)) ?_
  have c6 := (V_inputs.other W2 (Ne.symm ne_up_ui))
  obtain ⟨cl5, Ar5, q5, S5, M5, H5, G5⟩ := id c6
  have hin5 : ¬ ((1 : Int32) < 0 ∨ cl5.slots.size ≤ ((1 : Int32)).toNatClampNeg) := inb_of S5 ⟨by decide, by decide⟩
  obtain ⟨T5, h5, X5, e5, W5, st5⟩ := stI X3 hx hZ e3 Ar5 (j := (1 : Int32)) hin5 (g := (mkF m 13 #[lR a, lI 0, lI x, lI 1, lI 1, lU, lU] [(.int x), (.int 1), (.ref ui)])) rfl rfl (hb hby d22_13)
  have V5 : Arv Z h5 ui kui .int 5 [(.int ii0), (.int x), (.int ii2), (.int ii3), (.int ii4)] (.int 0) := Arv.set Ar5 q5 S5 M5 H5 G5 rfl W5 1 rfl (Nat.le_of_ble_eq_true rfl)
  have N5 := Fr.snoc X5 N2 g_ui
  have Z5 : n0 ≤ h5.size := Nat.le_trans Z2 (Keep.of_wr W5).1
  have KK5 : Keep h0 h5 [up, ui, ud, uf, un] := (KK2).wr W5 (Or.inl (List.mem_of_getElem? (i := 1) rfl))
  refine Ds (B := T5.setTop (mkF m 14 #[lR a, lI 0, lI x, lI 1, lI 1, lU, lU] [])) (fun _ k => st5 _ k) ?_
  refine Ds (B := T5.setTop (mkF m 15 #[lR a, lI 0, lI x, lI 1, lI 1, lU, lU] [(.ref a)])) (fun _ k => XS.aloadN X5.here hx rfl (hb hby d22_14) rfl rfl k) ?_
  have c8 := (Fld.other W5 (Fld.other W2 F_depths (Or.inl ne_a_up)) (Or.inl ne_a_ui))
  obtain ⟨T7, X7, e7, st7⟩ := getF X5 hx hZ hown (host := "") (Or.inl (hw _ mm124)) Via.refl e5 c8 (g := (mkF m 15 #[lR a, lI 0, lI x, lI 1, lI 1, lU, lU] [(.ref a)])) rfl rfl (hb hby d22_15)
  refine Ds (B := T7.setTop (mkF m 18 #[lR a, lI 0, lI x, lI 1, lI 1, lU, lU] [(.ref ud)])) (fun _ k => st7 _ k) ?_
  refine Ds (B := T7.setTop (mkF m 21 #[lR a, lI 0, lI x, lI 1, lI 1, lU, lU] [(.int 1), (.int 1), (.ref ud)])) (fun _ k => XS.iloadN X7.here hx rfl (hb hby d22_18) rfl (XS.iload X7.here hx rfl (hb hby d22_19) rfl k)) ?_
  have c10 := ((V_depths.other W2 (Ne.symm ne_up_ud)).other W5 (Ne.symm ne_ui_ud))
  obtain ⟨cl9, Ar9, q9, S9, M9, H9, G9⟩ := id c10
  have hin9 : ¬ ((1 : Int32) < 0 ∨ cl9.slots.size ≤ ((1 : Int32)).toNatClampNeg) := inb_of S9 ⟨by decide, by decide⟩
  obtain ⟨T9, h9, X9, e9, W9, st9⟩ := stI X7 hx hZ e7 Ar9 (j := (1 : Int32)) hin9 (g := (mkF m 21 #[lR a, lI 0, lI x, lI 1, lI 1, lU, lU] [(.int 1), (.int 1), (.ref ud)])) rfl rfl (hb hby d22_21)
  have V9 : Arv Z h9 ud kud .int 5 [(.int dd0), (.int 1), (.int dd2), (.int dd3), (.int dd4)] (.int 0) := Arv.set Ar9 q9 S9 M9 H9 G9 rfl W9 1 rfl (Nat.le_of_ble_eq_true rfl)
  have N9 := Fr.snoc X9 N5 g_ud
  have Z9 : n0 ≤ h9.size := Nat.le_trans Z5 (Keep.of_wr W9).1
  have KK9 : Keep h0 h9 [up, ui, ud, uf, un] := (KK5).wr W9 (Or.inl (List.mem_of_getElem? (i := 2) rfl))
  refine Ds (B := T9.setTop (mkF m 22 #[lR a, lI 0, lI x, lI 1, lI 1, lU, lU] [])) (fun _ k => st9 _ k) ?_
  refine Ds (B := T9.setTop (mkF m 23 #[lR a, lI 0, lI x, lI 1, lI 1, lU, lU] [(.ref a)])) (fun _ k => XS.aloadN X9.here hx rfl (hb hby d22_22) rfl rfl k) ?_
  have c12 := (Fld.other W9 (Fld.other W5 (Fld.other W2 F_firstChildren (Or.inl ne_a_up)) (Or.inl ne_a_ui)) (Or.inl ne_a_ud))
  obtain ⟨T11, X11, e11, st11⟩ := getF X9 hx hZ hown (host := "") (Or.inl (hw _ mm126)) Via.refl e9 c12 (g := (mkF m 23 #[lR a, lI 0, lI x, lI 1, lI 1, lU, lU] [(.ref a)])) rfl rfl (hb hby d22_23)
  refine Ds (B := T11.setTop (mkF m 26 #[lR a, lI 0, lI x, lI 1, lI 1, lU, lU] [(.ref uf)])) (fun _ k => st11 _ k) ?_
  refine Ds (B := T11.setTop (mkF m 28 #[lR a, lI 0, lI x, lI 1, lI 1, lU, lU] [(.int (-1)), (.int 1), (.ref uf)])) (fun _ k => XS.iloadN X11.here hx rfl (hb hby d22_26) rfl (XS.iconst X11.here hx rfl (hb hby d22_27) k)) ?_
  have c14 := (((V_firstChildren.other W2 (Ne.symm ne_up_uf)).other W5 (Ne.symm ne_ui_uf)).other W9 (Ne.symm ne_ud_uf))
  obtain ⟨cl13, Ar13, q13, S13, M13, H13, G13⟩ := id c14
  have hin13 : ¬ ((1 : Int32) < 0 ∨ cl13.slots.size ≤ ((1 : Int32)).toNatClampNeg) := inb_of S13 ⟨by decide, by decide⟩
  obtain ⟨T13, h13, X13, e13, W13, st13⟩ := stI X11 hx hZ e11 Ar13 (j := (1 : Int32)) hin13 (g := (mkF m 28 #[lR a, lI 0, lI x, lI 1, lI 1, lU, lU] [(.int (-1)), (.int 1), (.ref uf)])) rfl rfl (hb hby d22_28)
  have V13 : Arv Z h13 uf kuf .int 5 [(.int (-1)), (.int (-1)), (.int ff2), (.int ff3), (.int ff4)] (.int 0) := Arv.set Ar13 q13 S13 M13 H13 G13 rfl W13 1 rfl (Nat.le_of_ble_eq_true rfl)
  have N13 := Fr.snoc X13 N9 g_uf
  have Z13 : n0 ≤ h13.size := Nat.le_trans Z9 (Keep.of_wr W13).1
  have KK13 : Keep h0 h13 [up, ui, ud, uf, un] := (KK9).wr W13 (Or.inl (List.mem_of_getElem? (i := 3) rfl))
  refine Ds (B := T13.setTop (mkF m 29 #[lR a, lI 0, lI x, lI 1, lI 1, lU, lU] [])) (fun _ k => st13 _ k) ?_
  refine Ds (B := T13.setTop (mkF m 33 #[lR a, lI 0, lI x, lI 1, lI 1, lI (-1), lU] [(.ref a)])) (fun _ k => XS.iconst X13.here hx rfl (hb hby d22_29) (XS.istore X13.here hx rfl (hb hby d22_30) rfl (l' := #[lR a, lI 0, lI x, lI 1, lI 1, lI (-1), lU]) rfl (XS.aloadN X13.here hx rfl (hb hby d22_32) rfl rfl k))) ?_
  have c16 := (Fld.other W13 c12 (Or.inl ne_a_uf))
  obtain ⟨T15, X15, e15, st15⟩ := getF X13 hx hZ hown (host := "") (Or.inl (hw _ mm126)) Via.refl e13 c16 (g := (mkF m 33 #[lR a, lI 0, lI x, lI 1, lI 1, lI (-1), lU] [(.ref a)])) rfl rfl (hb hby d22_33)
  refine Ds (B := T15.setTop (mkF m 36 #[lR a, lI 0, lI x, lI 1, lI 1, lI (-1), lU] [(.ref uf)])) (fun _ k => st15 _ k) ?_
  refine Ds (B := T15.setTop (mkF m 37 #[lR a, lI 0, lI x, lI 1, lI 1, lI (-1), lU] [(.int 0), (.ref uf)])) (fun _ k => XS.iloadN X15.here hx rfl (hb hby d22_36) rfl k) ?_
  obtain ⟨cl17, Ar17, q17, S17, M17, H17, G17⟩ := id V13
  have hin17 : ¬ ((0 : Int32) < 0 ∨ cl17.slots.size ≤ ((0 : Int32)).toNatClampNeg) := inb_of S17 ⟨by decide, by decide⟩
  have hat17 : cl17.slots[((0 : Int32)).toNatClampNeg]? = some (.int (-1)) := Has.at H17 hin17 rfl
  refine Ds (B := T15.setTop (mkF m 38 #[lR a, lI 0, lI x, lI 1, lI 1, lI (-1), lU] [(.int (-1))])) (fun _ k => X15.iaload hx (j := (0 : Int32)) (v := (.int (-1))) (by rw [e15]; exact Ar17.1) (State.isArrayOf_alike hZ.alike Ar17.2.1) Ar17.2.2 hin17 hat17 (g := (mkF m 37 #[lR a, lI 0, lI x, lI 1, lI 1, lI (-1), lU] [(.int 0), (.ref uf)])) rfl rfl (hb hby d22_37) _ k) ?_
  refine Ds (B := T15.setTop (mkF m 74 #[lR a, lI 0, lI x, lI 1, lI 1, lI (-1), lI (-1)] [(.ref a)])) (fun _ k => XS.istore X15.here hx rfl (hb hby d22_38) rfl (l' := #[lR a, lI 0, lI x, lI 1, lI 1, lI (-1), lI (-1)]) rfl (XS.iload X15.here hx rfl (hb hby d22_40) rfl (XS.iconst X15.here hx rfl (hb hby d22_42) (XS.icmpYes X15.here hx rfl (pc0 := 43) (pc' := 73) rfl (hb hby d22_43) rfl (teq (rfl : (-1 : Int32) = (-1 : Int32))).1 (by decide) (by decide) (XS.aloadN X15.here hx rfl (hb hby d22_73) rfl rfl k))))) ?_
  have c19 := (Fld.other W13 (Fld.other W9 (Fld.other W5 (Fld.other W2 F_nextSiblings (Or.inl ne_a_up)) (Or.inl ne_a_ui)) (Or.inl ne_a_ud)) (Or.inl ne_a_uf))
  obtain ⟨T18, X18, e18, st18⟩ := getF X15 hx hZ hown (host := "") (Or.inl (hw _ mm128)) Via.refl e15 c19 (g := (mkF m 74 #[lR a, lI 0, lI x, lI 1, lI 1, lI (-1), lI (-1)] [(.ref a)])) rfl rfl (hb hby d22_74)
  refine Ds (B := T18.setTop (mkF m 77 #[lR a, lI 0, lI x, lI 1, lI 1, lI (-1), lI (-1)] [(.ref un)])) (fun _ k => st18 _ k) ?_
  refine Ds (B := T18.setTop (mkF m 80 #[lR a, lI 0, lI x, lI 1, lI 1, lI (-1), lI (-1)] [(.int (-1)), (.int 1), (.ref un)])) (fun _ k => XS.iloadN X18.here hx rfl (hb hby d22_77) rfl (XS.iload X18.here hx rfl (hb hby d22_78) rfl k)) ?_
  have c21 := ((((V_nextSiblings.other W2 (Ne.symm ne_up_un)).other W5 (Ne.symm ne_ui_un)).other W9 (Ne.symm ne_ud_un)).other W13 (Ne.symm ne_uf_un))
  obtain ⟨cl20, Ar20, q20, S20, M20, H20, G20⟩ := id c21
  have hin20 : ¬ ((1 : Int32) < 0 ∨ cl20.slots.size ≤ ((1 : Int32)).toNatClampNeg) := inb_of S20 ⟨by decide, by decide⟩
  obtain ⟨T20, h20, X20, e20, W20, st20⟩ := stI X18 hx hZ e18 Ar20 (j := (1 : Int32)) hin20 (g := (mkF m 80 #[lR a, lI 0, lI x, lI 1, lI 1, lI (-1), lI (-1)] [(.int (-1)), (.int 1), (.ref un)])) rfl rfl (hb hby d22_80)
  have V20 : Arv Z h20 un kun .int 5 [(.int nn0), (.int (-1)), (.int nn2), (.int nn3), (.int nn4)] (.int 0) := Arv.set Ar20 q20 S20 M20 H20 G20 rfl W20 1 rfl (Nat.le_of_ble_eq_true rfl)
  have N20 := Fr.snoc X20 N13 g_un
  have Z20 : n0 ≤ h20.size := Nat.le_trans Z13 (Keep.of_wr W20).1
  have KK20 : Keep h0 h20 [up, ui, ud, uf, un] := (KK13).wr W20 (Or.inl (List.mem_of_getElem? (i := 4) rfl))
  refine Ds (B := T20.setTop (mkF m 81 #[lR a, lI 0, lI x, lI 1, lI 1, lI (-1), lI (-1)] [])) (fun _ k => st20 _ k) ?_
  refine Ds (B := T20.setTop (mkF m 88 #[lR a, lI 0, lI x, lI 1, lI 1, lI (-1), lI (-1)] [(.ref a)])) (fun _ k => XS.iload X20.here hx rfl (hb hby d22_81) rfl (XS.iconst X20.here hx rfl (hb hby d22_83) (XS.icmpNo X20.here hx rfl (hb hby d22_84) rfl (teq (rfl : (-1 : Int32) = (-1 : Int32))).2 (XS.aloadN X20.here hx rfl (hb hby d22_87) rfl rfl k)))) ?_
  have c23 := (Fld.other W20 c16 (Or.inl ne_a_un))
  obtain ⟨T22, X22, e22, st22⟩ := getF X20 hx hZ hown (host := "") (Or.inl (hw _ mm126)) Via.refl e20 c23 (g := (mkF m 88 #[lR a, lI 0, lI x, lI 1, lI 1, lI (-1), lI (-1)] [(.ref a)])) rfl rfl (hb hby d22_88)
  refine Ds (B := T22.setTop (mkF m 91 #[lR a, lI 0, lI x, lI 1, lI 1, lI (-1), lI (-1)] [(.ref uf)])) (fun _ k => st22 _ k) ?_
  refine Ds (B := T22.setTop (mkF m 93 #[lR a, lI 0, lI x, lI 1, lI 1, lI (-1), lI (-1)] [(.int 1), (.int 0), (.ref uf)])) (fun _ k => XS.iloadN X22.here hx rfl (hb hby d22_91) rfl (XS.iloadN X22.here hx rfl (hb hby d22_92) rfl k)) ?_
  have c25 := (V13.other W20 ne_uf_un)
  obtain ⟨cl24, Ar24, q24, S24, M24, H24, G24⟩ := id c25
  have hin24 : ¬ ((0 : Int32) < 0 ∨ cl24.slots.size ≤ ((0 : Int32)).toNatClampNeg) := inb_of S24 ⟨by decide, by decide⟩
  obtain ⟨T24, h24, X24, e24, W24, st24⟩ := stI X22 hx hZ e22 Ar24 (j := (0 : Int32)) hin24 (g := (mkF m 93 #[lR a, lI 0, lI x, lI 1, lI 1, lI (-1), lI (-1)] [(.int 1), (.int 0), (.ref uf)])) rfl rfl (hb hby d22_93)
  have V24 : Arv Z h24 uf kuf .int 5 [(.int 1), (.int (-1)), (.int ff2), (.int ff3), (.int ff4)] (.int 0) := Arv.set Ar24 q24 S24 M24 H24 G24 rfl W24 0 rfl (Nat.le_of_ble_eq_true rfl)
  have N24 := Fr.snoc X24 N20 g_uf
  have Z24 : n0 ≤ h24.size := Nat.le_trans Z20 (Keep.of_wr W24).1
  have KK24 : Keep h0 h24 [up, ui, ud, uf, un] := (KK20).wr W24 (Or.inl (List.mem_of_getElem? (i := 3) rfl))
  refine Ds (B := T24.setTop (mkF m 94 #[lR a, lI 0, lI x, lI 1, lI 1, lI (-1), lI (-1)] [])) (fun _ k => st24 _ k) ?_
  refine Ds (B := T24.setTop (mkF m 105 #[lR a, lI 0, lI x, lI 1, lI 1, lI (-1), lI (-1)] [])) (fun _ k => XS.goto X24.here hx rfl (pc0 := 94) (pc' := 105) rfl (hb hby d22_94) (by decide) (by decide) k) ?_
  obtain ⟨fs, hr, hrun, hended, hW, hsame⟩ := X24.leave (v := none) (hlocks := hlk) (fun _ => rfl)
  have c27 := (((((V2.other W5 ne_up_ui).other W9 ne_up_ud).other W13 ne_up_uf).other W20 ne_up_un).other W24 ne_up_uf)
  have c28 := ((((V5.other W9 ne_ui_ud).other W13 ne_ui_uf).other W20 ne_ui_un).other W24 ne_ui_uf)
  have c29 := (((V9.other W13 ne_ud_uf).other W20 ne_ud_un).other W24 ne_ud_uf)
  have c30 := (V20.other W24 (Ne.symm ne_uf_un))
  refine Done.fin (X24.returnOut hx Bd.returns (hb hby d22_105) hr) hrun hended ⟨_, _, rfl, ?_, ⟨_, rfl⟩, hW, hsame.mono (by decide) (by decide)⟩
  show QrmLK_0 Z a x up kup ui kui ud kud uf kuf un kun pp0 pp1 pp2 pp3 pp4 ii0 ii1 ii2 ii3 ii4 dd0 dd1 dd2 dd3 dd4 ff1 ff2 ff3 ff4 nn0 nn1 nn2 nn3 nn4 h0 n0 _ T24.heap _
  rw [e24]
  exact ⟨rfl, N24, KK24, ⟨c27, c28, c29, V24, c30⟩⟩
theorem ef_rmLK_1 (m : MethodId) (a : Addr) (x : Int32) : entryFrame m #[(.ref a), (.int 1), (.int x), (.int 3), (.int 2)] 7 = mkF m 0 #[lR a, lI 1, lI x, lI 3, lI 2, lU, lU] [] := by first | (simp [entryFrame, mkF, argsToLocals, Value.category]; done) | rfl
def QrmLK_1 (Z : State) (a : Addr) (x : Int32) (up : Addr) (kup : ClassId) (ui : Addr) (kui : ClassId) (ud : Addr) (kud : ClassId) (uf : Addr) (kuf : ClassId) (un : Addr) (kun : ClassId) (pp0 : Int32) (pp1 : Int32) (pp2 : Int32) (pp3 : Int32) (pp4 : Int32) (ii0 : Int32) (ii1 : Int32) (ii2 : Int32) (ii3 : Int32) (ii4 : Int32) (dd0 : Int32) (dd1 : Int32) (dd2 : Int32) (dd3 : Int32) (dd4 : Int32) (ff0 : Int32) (ff2 : Int32) (ff3 : Int32) (ff4 : Int32) (nn0 : Int32) (nn1 : Int32) (nn2 : Int32) (nn3 : Int32) (nn4 : Int32) (h0 : Heap) (n0 : Nat) (v : Option Value) (h : Heap) (L : List Loc) : Prop := v = none ∧ Fr n0 L ∧ Keep h0 h [up, ui, ud, uf, un] ∧ ((Arv Z h up kup .int 5 [(.int pp0), (.int pp1), (.int pp2), (.int 1), (.int pp4)] (.int 0) ∧ Arv Z h ui kui .int 5 [(.int ii0), (.int ii1), (.int ii2), (.int x), (.int ii4)] (.int 0) ∧ Arv Z h ud kud .int 5 [(.int dd0), (.int dd1), (.int dd2), (.int 2), (.int dd4)] (.int 0) ∧ Arv Z h uf kuf .int 5 [(.int ff0), (.int 3), (.int ff2), (.int (-1)), (.int ff4)] (.int 0) ∧ Arv Z h un kun .int 5 [(.int nn0), (.int nn1), (.int nn2), (.int (-1)), (.int nn4)] (.int 0)))
def PrmLK_1 (s : State) (Z : State) (a : Addr) (x : Int32) (up : Addr) (kup : ClassId) (ui : Addr) (kui : ClassId) (ud : Addr) (kud : ClassId) (uf : Addr) (kuf : ClassId) (un : Addr) (kun : ClassId) (pp0 : Int32) (pp1 : Int32) (pp2 : Int32) (pp3 : Int32) (pp4 : Int32) (ii0 : Int32) (ii1 : Int32) (ii2 : Int32) (ii3 : Int32) (ii4 : Int32) (dd0 : Int32) (dd1 : Int32) (dd2 : Int32) (dd3 : Int32) (dd4 : Int32) (ff0 : Int32) (ff2 : Int32) (ff3 : Int32) (ff4 : Int32) (nn0 : Int32) (nn1 : Int32) (nn2 : Int32) (nn3 : Int32) (nn4 : Int32) (h0 : Heap) (n0 : Nat) : State → Outcome → Prop := fun U' o => ∃ v L, o = .returned v ∧ QrmLK_1 Z a x up kup ui kui ud kud uf kuf un kun pp0 pp1 pp2 pp3 pp4 ii0 ii1 ii2 ii3 ii4 dd0 dd1 dd2 dd3 dd4 ff0 ff2 ff3 ff4 nn0 nn1 nn2 nn3 nn4 h0 n0 v U'.heap L ∧ FrameEnd s o U' L ({ frames := 0, cells := 0, slots := 0, locals := 0 } : Room).cells ({ frames := 0, cells := 0, slots := 0, locals := 0 } : Room).slots
set_option maxRecDepth 65536 in
set_option maxHeartbeats 40000000 in
theorem rmLK_1 (l : Launch) (Z : State) (a0 : Array Value) (hw : ∀ d ∈ tables_1, d.before a0 Z = true) (ws : List Jvm.Cond) (a : Addr) (x : Int32) (up : Addr) (kup : ClassId) (ui : Addr) (kui : ClassId) (ud : Addr) (kud : ClassId) (uf : Addr) (kuf : ClassId) (un : Addr) (kun : ClassId) (pp0 : Int32) (pp1 : Int32) (pp2 : Int32) (pp3 : Int32) (pp4 : Int32) (ii0 : Int32) (ii1 : Int32) (ii2 : Int32) (ii3 : Int32) (ii4 : Int32) (dd0 : Int32) (dd1 : Int32) (dd2 : Int32) (dd3 : Int32) (dd4 : Int32) (ff0 : Int32) (ff2 : Int32) (ff3 : Int32) (ff4 : Int32) (nn0 : Int32) (nn1 : Int32) (nn2 : Int32) (nn3 : Int32) (nn4 : Int32) (h0 : Heap) (n0 : Nat) (Z0 : n0 ≤ h0.size) (F_parents : Fld Z h0 a "com/example/percurso/percurso/suite/PrefixTree" "parents" "[I" (.ref up)) (F_inputs : Fld Z h0 a "com/example/percurso/percurso/suite/PrefixTree" "inputs" "[I" (.ref ui)) (F_depths : Fld Z h0 a "com/example/percurso/percurso/suite/PrefixTree" "depths" "[I" (.ref ud)) (F_firstChildren : Fld Z h0 a "com/example/percurso/percurso/suite/PrefixTree" "firstChildren" "[I" (.ref uf)) (F_nextSiblings : Fld Z h0 a "com/example/percurso/percurso/suite/PrefixTree" "nextSiblings" "[I" (.ref un)) (V_parents : Arv Z h0 up kup .int 5 [(.int pp0), (.int pp1), (.int pp2), (.int pp3), (.int pp4)] (.int 0)) (V_inputs : Arv Z h0 ui kui .int 5 [(.int ii0), (.int ii1), (.int ii2), (.int ii3), (.int ii4)] (.int 0)) (V_depths : Arv Z h0 ud kud .int 5 [(.int dd0), (.int dd1), (.int dd2), (.int dd3), (.int dd4)] (.int 0)) (V_firstChildren : Arv Z h0 uf kuf .int 5 [(.int ff0), (.int (-1)), (.int ff2), (.int ff3), (.int ff4)] (.int 0)) (V_nextSiblings : Arv Z h0 un kun .int 5 [(.int nn0), (.int nn1), (.int nn2), (.int nn3), (.int nn4)] (.int 0)) (g_up : n0 ≤ up) (g_ui : n0 ≤ ui) (g_ud : n0 ≤ ud) (g_uf : n0 ≤ uf) (g_un : n0 ≤ un) (ne_up_ui : up ≠ ui) (ne_up_ud : up ≠ ud) (ne_up_uf : up ≠ uf) (ne_up_un : up ≠ un) (ne_ui_ud : ui ≠ ud) (ne_ui_uf : ui ≠ uf) (ne_ui_un : ui ≠ un) (ne_ud_uf : ud ≠ uf) (ne_ud_un : ud ≠ un) (ne_uf_un : uf ≠ un) (ne_a_up : a ≠ up) (ne_a_ui : a ≠ ui) (ne_a_ud : a ≠ ud) (ne_a_uf : a ≠ uf) (ne_a_un : a ≠ un) :
    MetFree l (⟨"com/example/percurso/percurso/suite/PrefixTree", "link", "(IIII)V"⟩ : MethodName) (head1 (Jvm.Cond.code (⟨"com/example/percurso/percurso/suite/PrefixTree", "link", "(IIII)V"⟩ : MethodName) prog_191_method_2_code 7 none :: ws) ({ frames := 0, cells := 0, slots := 0, locals := 0 } : Room)) (fun aa U => aa = #[(.ref a), (.int 1), (.int x), (.int 3), (.int 2)] ∧ Z.Warmed39 U.vm ∧ U.heap = h0) (fun _ _ _ _ _ => True) (fun _ U o U' => ∃ v L, o = .returned v ∧ QrmLK_1 Z a x up kup ui kui ud kud uf kuf un kun pp0 pp1 pp2 pp3 pp4 ii0 ii1 ii2 ii3 ii4 dd0 dd1 dd2 dd3 dd4 ff0 ff2 ff3 ff4 nn0 nn1 nn2 nn3 nn4 h0 n0 v U'.heap L ∧ FrameEnd U o U' L ({ frames := 0, cells := 0, slots := 0, locals := 0 } : Room).cells ({ frames := 0, cells := 0, slots := 0, locals := 0 } : Room).slots) := by
  refine MetFree.of_bodySF (plainFor_of_name pn_6) hisR ?_
  intro p e s m args below meth c s₁ Bd hml0 hP hK
  obtain ⟨rfl, hZ, hh⟩ := hP
  have hx := Bd.exec
  have hlk : meth.locks = false := by first | exact BodyLoose.notSynchronized Bd | exact Body.notSynchronized Bd
  have hby := Bd.bytes
  have hml : c.maxLocals = 7 := hml0
  have hown : s.vm.findClass "com/example/percurso/percurso/suite/PrefixTree" = some m.cls := findClass_of_methodNamed Bd.named
  have hnm := (name_of_methodNamed Bd.named Bd.method).1
  have X0 : Stand p l e ({ frames := 0, cells := 0, slots := 0, locals := 0 } : Room) s m #[(.ref a), (.int 1), (.int x), (.int 3), (.int 2)] below meth c s₁ [] 0 0 := Stand.of_body Bd
  have e0 : s₁.heap = h0 := by rw [← hh, Bd.state]; rfl
  have N0 := Fr.nil n0
  show Done p e below (PrmLK_1 s Z a x up kup ui kui ud kud uf kuf un kun pp0 pp1 pp2 pp3 pp4 ii0 ii1 ii2 ii3 ii4 dd0 dd1 dd2 dd3 dd4 ff0 ff2 ff3 ff4 nn0 nn1 nn2 nn3 nn4 h0 n0) (s₁.setTop (entryFrame m #[(.ref a), (.int 1), (.int x), (.int 3), (.int 2)] 7))
  refine Ds (B := s₁.setTop (mkF m 0 #[lR a, lI 1, lI x, lI 3, lI 2, lU, lU] [])) (fun _ k => castTop (ef_rmLK_1 m a x) k) ?_
  refine Ds (B := s₁.setTop (mkF m 1 #[lR a, lI 1, lI x, lI 3, lI 2, lU, lU] [(.ref a)])) (fun _ k => XS.aloadN X0.here hx rfl (hb hby d22_0) rfl rfl k) ?_
  obtain ⟨T1, X1, e1, st1⟩ := getF X0 hx hZ hown (host := "") (Or.inl (hw _ mm120)) Via.refl e0 F_parents (g := (mkF m 1 #[lR a, lI 1, lI x, lI 3, lI 2, lU, lU] [(.ref a)])) rfl rfl (hb hby d22_1)
  refine Ds (B := T1.setTop (mkF m 4 #[lR a, lI 1, lI x, lI 3, lI 2, lU, lU] [(.ref up)])) (fun _ k => st1 _ k) ?_
  refine Ds (B := T1.setTop (mkF m 6 #[lR a, lI 1, lI x, lI 3, lI 2, lU, lU] [(.int 1), (.int 3), (.ref up)])) (fun _ k => XS.iloadN X1.here hx rfl (hb hby d22_4) rfl (XS.iloadN X1.here hx rfl (hb hby d22_5) rfl k)) ?_
  obtain ⟨cl2, Ar2, q2, S2, M2, H2, G2⟩ := id V_parents
  have hin2 : ¬ ((3 : Int32) < 0 ∨ cl2.slots.size ≤ ((3 : Int32)).toNatClampNeg) := inb_of S2 ⟨by decide, by decide⟩
  obtain ⟨T2, h2, X2, e2, W2, st2⟩ := stI X1 hx hZ e1 Ar2 (j := (3 : Int32)) hin2 (g := (mkF m 6 #[lR a, lI 1, lI x, lI 3, lI 2, lU, lU] [(.int 1), (.int 3), (.ref up)])) rfl rfl (hb hby d22_6)
  have V2 : Arv Z h2 up kup .int 5 [(.int pp0), (.int pp1), (.int pp2), (.int 1), (.int pp4)] (.int 0) := Arv.set Ar2 q2 S2 M2 H2 G2 rfl W2 3 rfl (Nat.le_of_ble_eq_true rfl)
  have N2 := Fr.snoc X2 N0 g_up
  have Z2 : n0 ≤ h2.size := Nat.le_trans Z0 (Keep.of_wr W2).1
  have KK2 : Keep h0 h2 [up, ui, ud, uf, un] := ((Keep.refl h0 [up, ui, ud, uf, un])).wr W2 (Or.inl (List.mem_of_getElem? (i := 0) rfl))
  refine Ds (B := T2.setTop (mkF m 7 #[lR a, lI 1, lI x, lI 3, lI 2, lU, lU] [])) (fun _ k => st2 _ k) ?_
  refine Ds (B := T2.setTop (mkF m 8 #[lR a, lI 1, lI x, lI 3, lI 2, lU, lU] [(.ref a)])) (fun _ k => XS.aloadN X2.here hx rfl (hb hby d22_7) rfl rfl k) ?_
  have c4 := (Fld.other W2 F_inputs (Or.inl ne_a_up))
  obtain ⟨T3, X3, e3, st3⟩ := getF X2 hx hZ hown (host := "") (Or.inl (hw _ mm122)) Via.refl e2 c4 (g := (mkF m 8 #[lR a, lI 1, lI x, lI 3, lI 2, lU, lU] [(.ref a)])) rfl rfl (hb hby d22_8)
  refine Ds (B := T3.setTop (mkF m 11 #[lR a, lI 1, lI x, lI 3, lI 2, lU, lU] [(.ref ui)])) (fun _ k => st3 _ k) ?_
  refine Ds (B := T3.setTop (mkF m 13 #[lR a, lI 1, lI x, lI 3, lI 2, lU, lU] [(.int x), (.int 3), (.ref ui)])) (fun _ k => XS.iloadN X3.here hx rfl (hb hby d22_11) rfl (XS.iloadN X3.here hx rfl (hb hby d22_12) rfl k)) ?_
  have c6 := (V_inputs.other W2 (Ne.symm ne_up_ui))
  obtain ⟨cl5, Ar5, q5, S5, M5, H5, G5⟩ := id c6
  have hin5 : ¬ ((3 : Int32) < 0 ∨ cl5.slots.size ≤ ((3 : Int32)).toNatClampNeg) := inb_of S5 ⟨by decide, by decide⟩
  obtain ⟨T5, h5, X5, e5, W5, st5⟩ := stI X3 hx hZ e3 Ar5 (j := (3 : Int32)) hin5 (g := (mkF m 13 #[lR a, lI 1, lI x, lI 3, lI 2, lU, lU] [(.int x), (.int 3), (.ref ui)])) rfl rfl (hb hby d22_13)
  have V5 : Arv Z h5 ui kui .int 5 [(.int ii0), (.int ii1), (.int ii2), (.int x), (.int ii4)] (.int 0) := Arv.set Ar5 q5 S5 M5 H5 G5 rfl W5 3 rfl (Nat.le_of_ble_eq_true rfl)
  have N5 := Fr.snoc X5 N2 g_ui
  have Z5 : n0 ≤ h5.size := Nat.le_trans Z2 (Keep.of_wr W5).1
  have KK5 : Keep h0 h5 [up, ui, ud, uf, un] := (KK2).wr W5 (Or.inl (List.mem_of_getElem? (i := 1) rfl))
  refine Ds (B := T5.setTop (mkF m 14 #[lR a, lI 1, lI x, lI 3, lI 2, lU, lU] [])) (fun _ k => st5 _ k) ?_
  refine Ds (B := T5.setTop (mkF m 15 #[lR a, lI 1, lI x, lI 3, lI 2, lU, lU] [(.ref a)])) (fun _ k => XS.aloadN X5.here hx rfl (hb hby d22_14) rfl rfl k) ?_
  have c8 := (Fld.other W5 (Fld.other W2 F_depths (Or.inl ne_a_up)) (Or.inl ne_a_ui))
  obtain ⟨T7, X7, e7, st7⟩ := getF X5 hx hZ hown (host := "") (Or.inl (hw _ mm124)) Via.refl e5 c8 (g := (mkF m 15 #[lR a, lI 1, lI x, lI 3, lI 2, lU, lU] [(.ref a)])) rfl rfl (hb hby d22_15)
  refine Ds (B := T7.setTop (mkF m 18 #[lR a, lI 1, lI x, lI 3, lI 2, lU, lU] [(.ref ud)])) (fun _ k => st7 _ k) ?_
  refine Ds (B := T7.setTop (mkF m 21 #[lR a, lI 1, lI x, lI 3, lI 2, lU, lU] [(.int 2), (.int 3), (.ref ud)])) (fun _ k => XS.iloadN X7.here hx rfl (hb hby d22_18) rfl (XS.iload X7.here hx rfl (hb hby d22_19) rfl k)) ?_
  have c10 := ((V_depths.other W2 (Ne.symm ne_up_ud)).other W5 (Ne.symm ne_ui_ud))
  obtain ⟨cl9, Ar9, q9, S9, M9, H9, G9⟩ := id c10
  have hin9 : ¬ ((3 : Int32) < 0 ∨ cl9.slots.size ≤ ((3 : Int32)).toNatClampNeg) := inb_of S9 ⟨by decide, by decide⟩
  obtain ⟨T9, h9, X9, e9, W9, st9⟩ := stI X7 hx hZ e7 Ar9 (j := (3 : Int32)) hin9 (g := (mkF m 21 #[lR a, lI 1, lI x, lI 3, lI 2, lU, lU] [(.int 2), (.int 3), (.ref ud)])) rfl rfl (hb hby d22_21)
  have V9 : Arv Z h9 ud kud .int 5 [(.int dd0), (.int dd1), (.int dd2), (.int 2), (.int dd4)] (.int 0) := Arv.set Ar9 q9 S9 M9 H9 G9 rfl W9 3 rfl (Nat.le_of_ble_eq_true rfl)
  have N9 := Fr.snoc X9 N5 g_ud
  have Z9 : n0 ≤ h9.size := Nat.le_trans Z5 (Keep.of_wr W9).1
  have KK9 : Keep h0 h9 [up, ui, ud, uf, un] := (KK5).wr W9 (Or.inl (List.mem_of_getElem? (i := 2) rfl))
  refine Ds (B := T9.setTop (mkF m 22 #[lR a, lI 1, lI x, lI 3, lI 2, lU, lU] [])) (fun _ k => st9 _ k) ?_
  refine Ds (B := T9.setTop (mkF m 23 #[lR a, lI 1, lI x, lI 3, lI 2, lU, lU] [(.ref a)])) (fun _ k => XS.aloadN X9.here hx rfl (hb hby d22_22) rfl rfl k) ?_
  have c12 := (Fld.other W9 (Fld.other W5 (Fld.other W2 F_firstChildren (Or.inl ne_a_up)) (Or.inl ne_a_ui)) (Or.inl ne_a_ud))
  obtain ⟨T11, X11, e11, st11⟩ := getF X9 hx hZ hown (host := "") (Or.inl (hw _ mm126)) Via.refl e9 c12 (g := (mkF m 23 #[lR a, lI 1, lI x, lI 3, lI 2, lU, lU] [(.ref a)])) rfl rfl (hb hby d22_23)
  refine Ds (B := T11.setTop (mkF m 26 #[lR a, lI 1, lI x, lI 3, lI 2, lU, lU] [(.ref uf)])) (fun _ k => st11 _ k) ?_
  refine Ds (B := T11.setTop (mkF m 28 #[lR a, lI 1, lI x, lI 3, lI 2, lU, lU] [(.int (-1)), (.int 3), (.ref uf)])) (fun _ k => XS.iloadN X11.here hx rfl (hb hby d22_26) rfl (XS.iconst X11.here hx rfl (hb hby d22_27) k)) ?_
  have c14 := (((V_firstChildren.other W2 (Ne.symm ne_up_uf)).other W5 (Ne.symm ne_ui_uf)).other W9 (Ne.symm ne_ud_uf))
  obtain ⟨cl13, Ar13, q13, S13, M13, H13, G13⟩ := id c14
  have hin13 : ¬ ((3 : Int32) < 0 ∨ cl13.slots.size ≤ ((3 : Int32)).toNatClampNeg) := inb_of S13 ⟨by decide, by decide⟩
  obtain ⟨T13, h13, X13, e13, W13, st13⟩ := stI X11 hx hZ e11 Ar13 (j := (3 : Int32)) hin13 (g := (mkF m 28 #[lR a, lI 1, lI x, lI 3, lI 2, lU, lU] [(.int (-1)), (.int 3), (.ref uf)])) rfl rfl (hb hby d22_28)
  have V13 : Arv Z h13 uf kuf .int 5 [(.int ff0), (.int (-1)), (.int ff2), (.int (-1)), (.int ff4)] (.int 0) := Arv.set Ar13 q13 S13 M13 H13 G13 rfl W13 3 rfl (Nat.le_of_ble_eq_true rfl)
  have N13 := Fr.snoc X13 N9 g_uf
  have Z13 : n0 ≤ h13.size := Nat.le_trans Z9 (Keep.of_wr W13).1
  have KK13 : Keep h0 h13 [up, ui, ud, uf, un] := (KK9).wr W13 (Or.inl (List.mem_of_getElem? (i := 3) rfl))
  refine Ds (B := T13.setTop (mkF m 29 #[lR a, lI 1, lI x, lI 3, lI 2, lU, lU] [])) (fun _ k => st13 _ k) ?_
  refine Ds (B := T13.setTop (mkF m 33 #[lR a, lI 1, lI x, lI 3, lI 2, lI (-1), lU] [(.ref a)])) (fun _ k => XS.iconst X13.here hx rfl (hb hby d22_29) (XS.istore X13.here hx rfl (hb hby d22_30) rfl (l' := #[lR a, lI 1, lI x, lI 3, lI 2, lI (-1), lU]) rfl (XS.aloadN X13.here hx rfl (hb hby d22_32) rfl rfl k))) ?_
  have c16 := (Fld.other W13 c12 (Or.inl ne_a_uf))
  obtain ⟨T15, X15, e15, st15⟩ := getF X13 hx hZ hown (host := "") (Or.inl (hw _ mm126)) Via.refl e13 c16 (g := (mkF m 33 #[lR a, lI 1, lI x, lI 3, lI 2, lI (-1), lU] [(.ref a)])) rfl rfl (hb hby d22_33)
  refine Ds (B := T15.setTop (mkF m 36 #[lR a, lI 1, lI x, lI 3, lI 2, lI (-1), lU] [(.ref uf)])) (fun _ k => st15 _ k) ?_
  refine Ds (B := T15.setTop (mkF m 37 #[lR a, lI 1, lI x, lI 3, lI 2, lI (-1), lU] [(.int 1), (.ref uf)])) (fun _ k => XS.iloadN X15.here hx rfl (hb hby d22_36) rfl k) ?_
  obtain ⟨cl17, Ar17, q17, S17, M17, H17, G17⟩ := id V13
  have hin17 : ¬ ((1 : Int32) < 0 ∨ cl17.slots.size ≤ ((1 : Int32)).toNatClampNeg) := inb_of S17 ⟨by decide, by decide⟩
  have hat17 : cl17.slots[((1 : Int32)).toNatClampNeg]? = some (.int (-1)) := Has.at H17 hin17 rfl
  refine Ds (B := T15.setTop (mkF m 38 #[lR a, lI 1, lI x, lI 3, lI 2, lI (-1), lU] [(.int (-1))])) (fun _ k => X15.iaload hx (j := (1 : Int32)) (v := (.int (-1))) (by rw [e15]; exact Ar17.1) (State.isArrayOf_alike hZ.alike Ar17.2.1) Ar17.2.2 hin17 hat17 (g := (mkF m 37 #[lR a, lI 1, lI x, lI 3, lI 2, lI (-1), lU] [(.int 1), (.ref uf)])) rfl rfl (hb hby d22_37) _ k) ?_
  refine Ds (B := T15.setTop (mkF m 74 #[lR a, lI 1, lI x, lI 3, lI 2, lI (-1), lI (-1)] [(.ref a)])) (fun _ k => XS.istore X15.here hx rfl (hb hby d22_38) rfl (l' := #[lR a, lI 1, lI x, lI 3, lI 2, lI (-1), lI (-1)]) rfl (XS.iload X15.here hx rfl (hb hby d22_40) rfl (XS.iconst X15.here hx rfl (hb hby d22_42) (XS.icmpYes X15.here hx rfl (pc0 := 43) (pc' := 73) rfl (hb hby d22_43) rfl (teq (rfl : (-1 : Int32) = (-1 : Int32))).1 (by decide) (by decide) (XS.aloadN X15.here hx rfl (hb hby d22_73) rfl rfl k))))) ?_
  have c19 := (Fld.other W13 (Fld.other W9 (Fld.other W5 (Fld.other W2 F_nextSiblings (Or.inl ne_a_up)) (Or.inl ne_a_ui)) (Or.inl ne_a_ud)) (Or.inl ne_a_uf))
  obtain ⟨T18, X18, e18, st18⟩ := getF X15 hx hZ hown (host := "") (Or.inl (hw _ mm128)) Via.refl e15 c19 (g := (mkF m 74 #[lR a, lI 1, lI x, lI 3, lI 2, lI (-1), lI (-1)] [(.ref a)])) rfl rfl (hb hby d22_74)
  refine Ds (B := T18.setTop (mkF m 77 #[lR a, lI 1, lI x, lI 3, lI 2, lI (-1), lI (-1)] [(.ref un)])) (fun _ k => st18 _ k) ?_
  refine Ds (B := T18.setTop (mkF m 80 #[lR a, lI 1, lI x, lI 3, lI 2, lI (-1), lI (-1)] [(.int (-1)), (.int 3), (.ref un)])) (fun _ k => XS.iloadN X18.here hx rfl (hb hby d22_77) rfl (XS.iload X18.here hx rfl (hb hby d22_78) rfl k)) ?_
  have c21 := ((((V_nextSiblings.other W2 (Ne.symm ne_up_un)).other W5 (Ne.symm ne_ui_un)).other W9 (Ne.symm ne_ud_un)).other W13 (Ne.symm ne_uf_un))
  obtain ⟨cl20, Ar20, q20, S20, M20, H20, G20⟩ := id c21
  have hin20 : ¬ ((3 : Int32) < 0 ∨ cl20.slots.size ≤ ((3 : Int32)).toNatClampNeg) := inb_of S20 ⟨by decide, by decide⟩
  obtain ⟨T20, h20, X20, e20, W20, st20⟩ := stI X18 hx hZ e18 Ar20 (j := (3 : Int32)) hin20 (g := (mkF m 80 #[lR a, lI 1, lI x, lI 3, lI 2, lI (-1), lI (-1)] [(.int (-1)), (.int 3), (.ref un)])) rfl rfl (hb hby d22_80)
  have V20 : Arv Z h20 un kun .int 5 [(.int nn0), (.int nn1), (.int nn2), (.int (-1)), (.int nn4)] (.int 0) := Arv.set Ar20 q20 S20 M20 H20 G20 rfl W20 3 rfl (Nat.le_of_ble_eq_true rfl)
  have N20 := Fr.snoc X20 N13 g_un
  have Z20 : n0 ≤ h20.size := Nat.le_trans Z13 (Keep.of_wr W20).1
  have KK20 : Keep h0 h20 [up, ui, ud, uf, un] := (KK13).wr W20 (Or.inl (List.mem_of_getElem? (i := 4) rfl))
  refine Ds (B := T20.setTop (mkF m 81 #[lR a, lI 1, lI x, lI 3, lI 2, lI (-1), lI (-1)] [])) (fun _ k => st20 _ k) ?_
  refine Ds (B := T20.setTop (mkF m 88 #[lR a, lI 1, lI x, lI 3, lI 2, lI (-1), lI (-1)] [(.ref a)])) (fun _ k => XS.iload X20.here hx rfl (hb hby d22_81) rfl (XS.iconst X20.here hx rfl (hb hby d22_83) (XS.icmpNo X20.here hx rfl (hb hby d22_84) rfl (teq (rfl : (-1 : Int32) = (-1 : Int32))).2 (XS.aloadN X20.here hx rfl (hb hby d22_87) rfl rfl k)))) ?_
  have c23 := (Fld.other W20 c16 (Or.inl ne_a_un))
  obtain ⟨T22, X22, e22, st22⟩ := getF X20 hx hZ hown (host := "") (Or.inl (hw _ mm126)) Via.refl e20 c23 (g := (mkF m 88 #[lR a, lI 1, lI x, lI 3, lI 2, lI (-1), lI (-1)] [(.ref a)])) rfl rfl (hb hby d22_88)
  refine Ds (B := T22.setTop (mkF m 91 #[lR a, lI 1, lI x, lI 3, lI 2, lI (-1), lI (-1)] [(.ref uf)])) (fun _ k => st22 _ k) ?_
  refine Ds (B := T22.setTop (mkF m 93 #[lR a, lI 1, lI x, lI 3, lI 2, lI (-1), lI (-1)] [(.int 3), (.int 1), (.ref uf)])) (fun _ k => XS.iloadN X22.here hx rfl (hb hby d22_91) rfl (XS.iloadN X22.here hx rfl (hb hby d22_92) rfl k)) ?_
  have c25 := (V13.other W20 ne_uf_un)
  obtain ⟨cl24, Ar24, q24, S24, M24, H24, G24⟩ := id c25
  have hin24 : ¬ ((1 : Int32) < 0 ∨ cl24.slots.size ≤ ((1 : Int32)).toNatClampNeg) := inb_of S24 ⟨by decide, by decide⟩
  obtain ⟨T24, h24, X24, e24, W24, st24⟩ := stI X22 hx hZ e22 Ar24 (j := (1 : Int32)) hin24 (g := (mkF m 93 #[lR a, lI 1, lI x, lI 3, lI 2, lI (-1), lI (-1)] [(.int 3), (.int 1), (.ref uf)])) rfl rfl (hb hby d22_93)
  have V24 : Arv Z h24 uf kuf .int 5 [(.int ff0), (.int 3), (.int ff2), (.int (-1)), (.int ff4)] (.int 0) := Arv.set Ar24 q24 S24 M24 H24 G24 rfl W24 1 rfl (Nat.le_of_ble_eq_true rfl)
  have N24 := Fr.snoc X24 N20 g_uf
  have Z24 : n0 ≤ h24.size := Nat.le_trans Z20 (Keep.of_wr W24).1
  have KK24 : Keep h0 h24 [up, ui, ud, uf, un] := (KK20).wr W24 (Or.inl (List.mem_of_getElem? (i := 3) rfl))
  refine Ds (B := T24.setTop (mkF m 94 #[lR a, lI 1, lI x, lI 3, lI 2, lI (-1), lI (-1)] [])) (fun _ k => st24 _ k) ?_
  refine Ds (B := T24.setTop (mkF m 105 #[lR a, lI 1, lI x, lI 3, lI 2, lI (-1), lI (-1)] [])) (fun _ k => XS.goto X24.here hx rfl (pc0 := 94) (pc' := 105) rfl (hb hby d22_94) (by decide) (by decide) k) ?_
  obtain ⟨fs, hr, hrun, hended, hW, hsame⟩ := X24.leave (v := none) (hlocks := hlk) (fun _ => rfl)
  have c27 := (((((V2.other W5 ne_up_ui).other W9 ne_up_ud).other W13 ne_up_uf).other W20 ne_up_un).other W24 ne_up_uf)
  have c28 := ((((V5.other W9 ne_ui_ud).other W13 ne_ui_uf).other W20 ne_ui_un).other W24 ne_ui_uf)
  have c29 := (((V9.other W13 ne_ud_uf).other W20 ne_ud_un).other W24 ne_ud_uf)
  have c30 := (V20.other W24 (Ne.symm ne_uf_un))
  refine Done.fin (X24.returnOut hx Bd.returns (hb hby d22_105) hr) hrun hended ⟨_, _, rfl, ?_, ⟨_, rfl⟩, hW, hsame.mono (by decide) (by decide)⟩
  show QrmLK_1 Z a x up kup ui kui ud kud uf kuf un kun pp0 pp1 pp2 pp3 pp4 ii0 ii1 ii2 ii3 ii4 dd0 dd1 dd2 dd3 dd4 ff0 ff2 ff3 ff4 nn0 nn1 nn2 nn3 nn4 h0 n0 _ T24.heap _
  rw [e24]
  exact ⟨rfl, N24, KK24, ⟨c27, c28, c29, V24, c30⟩⟩
theorem ef_rmLK_2 (m : MethodId) (a : Addr) (x : Int32) : entryFrame m #[(.ref a), (.int 1), (.int x), (.int 4), (.int 2)] 7 = mkF m 0 #[lR a, lI 1, lI x, lI 4, lI 2, lU, lU] [] := by first | (simp [entryFrame, mkF, argsToLocals, Value.category]; done) | rfl
def QrmLK_2 (Z : State) (a : Addr) (x : Int32) (up : Addr) (kup : ClassId) (ui : Addr) (kui : ClassId) (ud : Addr) (kud : ClassId) (uf : Addr) (kuf : ClassId) (un : Addr) (kun : ClassId) (pp0 : Int32) (pp1 : Int32) (pp2 : Int32) (pp3 : Int32) (pp4 : Int32) (ii0 : Int32) (ii1 : Int32) (ii2 : Int32) (ii3 : Int32) (ii4 : Int32) (dd0 : Int32) (dd1 : Int32) (dd2 : Int32) (dd3 : Int32) (dd4 : Int32) (ff0 : Int32) (ff2 : Int32) (ff3 : Int32) (ff4 : Int32) (nn0 : Int32) (nn1 : Int32) (nn2 : Int32) (nn3 : Int32) (nn4 : Int32) (h0 : Heap) (n0 : Nat) (v : Option Value) (h : Heap) (L : List Loc) : Prop := v = none ∧ Fr n0 L ∧ Keep h0 h [up, ui, ud, uf, un] ∧ ((Arv Z h up kup .int 5 [(.int pp0), (.int pp1), (.int pp2), (.int pp3), (.int 1)] (.int 0) ∧ Arv Z h ui kui .int 5 [(.int ii0), (.int ii1), (.int ii2), (.int ii3), (.int x)] (.int 0) ∧ Arv Z h ud kud .int 5 [(.int dd0), (.int dd1), (.int dd2), (.int dd3), (.int 2)] (.int 0) ∧ Arv Z h uf kuf .int 5 [(.int ff0), (.int 4), (.int ff2), (.int ff3), (.int (-1))] (.int 0) ∧ Arv Z h un kun .int 5 [(.int nn0), (.int nn1), (.int nn2), (.int nn3), (.int (-1))] (.int 0)))
def PrmLK_2 (s : State) (Z : State) (a : Addr) (x : Int32) (up : Addr) (kup : ClassId) (ui : Addr) (kui : ClassId) (ud : Addr) (kud : ClassId) (uf : Addr) (kuf : ClassId) (un : Addr) (kun : ClassId) (pp0 : Int32) (pp1 : Int32) (pp2 : Int32) (pp3 : Int32) (pp4 : Int32) (ii0 : Int32) (ii1 : Int32) (ii2 : Int32) (ii3 : Int32) (ii4 : Int32) (dd0 : Int32) (dd1 : Int32) (dd2 : Int32) (dd3 : Int32) (dd4 : Int32) (ff0 : Int32) (ff2 : Int32) (ff3 : Int32) (ff4 : Int32) (nn0 : Int32) (nn1 : Int32) (nn2 : Int32) (nn3 : Int32) (nn4 : Int32) (h0 : Heap) (n0 : Nat) : State → Outcome → Prop := fun U' o => ∃ v L, o = .returned v ∧ QrmLK_2 Z a x up kup ui kui ud kud uf kuf un kun pp0 pp1 pp2 pp3 pp4 ii0 ii1 ii2 ii3 ii4 dd0 dd1 dd2 dd3 dd4 ff0 ff2 ff3 ff4 nn0 nn1 nn2 nn3 nn4 h0 n0 v U'.heap L ∧ FrameEnd s o U' L ({ frames := 0, cells := 0, slots := 0, locals := 0 } : Room).cells ({ frames := 0, cells := 0, slots := 0, locals := 0 } : Room).slots
set_option maxRecDepth 65536 in
set_option maxHeartbeats 40000000 in
theorem rmLK_2 (l : Launch) (Z : State) (a0 : Array Value) (hw : ∀ d ∈ tables_1, d.before a0 Z = true) (ws : List Jvm.Cond) (a : Addr) (x : Int32) (up : Addr) (kup : ClassId) (ui : Addr) (kui : ClassId) (ud : Addr) (kud : ClassId) (uf : Addr) (kuf : ClassId) (un : Addr) (kun : ClassId) (pp0 : Int32) (pp1 : Int32) (pp2 : Int32) (pp3 : Int32) (pp4 : Int32) (ii0 : Int32) (ii1 : Int32) (ii2 : Int32) (ii3 : Int32) (ii4 : Int32) (dd0 : Int32) (dd1 : Int32) (dd2 : Int32) (dd3 : Int32) (dd4 : Int32) (ff0 : Int32) (ff2 : Int32) (ff3 : Int32) (ff4 : Int32) (nn0 : Int32) (nn1 : Int32) (nn2 : Int32) (nn3 : Int32) (nn4 : Int32) (h0 : Heap) (n0 : Nat) (Z0 : n0 ≤ h0.size) (F_parents : Fld Z h0 a "com/example/percurso/percurso/suite/PrefixTree" "parents" "[I" (.ref up)) (F_inputs : Fld Z h0 a "com/example/percurso/percurso/suite/PrefixTree" "inputs" "[I" (.ref ui)) (F_depths : Fld Z h0 a "com/example/percurso/percurso/suite/PrefixTree" "depths" "[I" (.ref ud)) (F_firstChildren : Fld Z h0 a "com/example/percurso/percurso/suite/PrefixTree" "firstChildren" "[I" (.ref uf)) (F_nextSiblings : Fld Z h0 a "com/example/percurso/percurso/suite/PrefixTree" "nextSiblings" "[I" (.ref un)) (V_parents : Arv Z h0 up kup .int 5 [(.int pp0), (.int pp1), (.int pp2), (.int pp3), (.int pp4)] (.int 0)) (V_inputs : Arv Z h0 ui kui .int 5 [(.int ii0), (.int ii1), (.int ii2), (.int ii3), (.int ii4)] (.int 0)) (V_depths : Arv Z h0 ud kud .int 5 [(.int dd0), (.int dd1), (.int dd2), (.int dd3), (.int dd4)] (.int 0)) (V_firstChildren : Arv Z h0 uf kuf .int 5 [(.int ff0), (.int (-1)), (.int ff2), (.int ff3), (.int ff4)] (.int 0)) (V_nextSiblings : Arv Z h0 un kun .int 5 [(.int nn0), (.int nn1), (.int nn2), (.int nn3), (.int nn4)] (.int 0)) (g_up : n0 ≤ up) (g_ui : n0 ≤ ui) (g_ud : n0 ≤ ud) (g_uf : n0 ≤ uf) (g_un : n0 ≤ un) (ne_up_ui : up ≠ ui) (ne_up_ud : up ≠ ud) (ne_up_uf : up ≠ uf) (ne_up_un : up ≠ un) (ne_ui_ud : ui ≠ ud) (ne_ui_uf : ui ≠ uf) (ne_ui_un : ui ≠ un) (ne_ud_uf : ud ≠ uf) (ne_ud_un : ud ≠ un) (ne_uf_un : uf ≠ un) (ne_a_up : a ≠ up) (ne_a_ui : a ≠ ui) (ne_a_ud : a ≠ ud) (ne_a_uf : a ≠ uf) (ne_a_un : a ≠ un) :
    MetFree l (⟨"com/example/percurso/percurso/suite/PrefixTree", "link", "(IIII)V"⟩ : MethodName) (head1 (Jvm.Cond.code (⟨"com/example/percurso/percurso/suite/PrefixTree", "link", "(IIII)V"⟩ : MethodName) prog_191_method_2_code 7 none :: ws) ({ frames := 0, cells := 0, slots := 0, locals := 0 } : Room)) (fun aa U => aa = #[(.ref a), (.int 1), (.int x), (.int 4), (.int 2)] ∧ Z.Warmed39 U.vm ∧ U.heap = h0) (fun _ _ _ _ _ => True) (fun _ U o U' => ∃ v L, o = .returned v ∧ QrmLK_2 Z a x up kup ui kui ud kud uf kuf un kun pp0 pp1 pp2 pp3 pp4 ii0 ii1 ii2 ii3 ii4 dd0 dd1 dd2 dd3 dd4 ff0 ff2 ff3 ff4 nn0 nn1 nn2 nn3 nn4 h0 n0 v U'.heap L ∧ FrameEnd U o U' L ({ frames := 0, cells := 0, slots := 0, locals := 0 } : Room).cells ({ frames := 0, cells := 0, slots := 0, locals := 0 } : Room).slots) := by
  refine MetFree.of_bodySF (plainFor_of_name pn_6) hisR ?_
  intro p e s m args below meth c s₁ Bd hml0 hP hK
  obtain ⟨rfl, hZ, hh⟩ := hP
  have hx := Bd.exec
  have hlk : meth.locks = false := by first | exact BodyLoose.notSynchronized Bd | exact Body.notSynchronized Bd
  have hby := Bd.bytes
  have hml : c.maxLocals = 7 := hml0
  have hown : s.vm.findClass "com/example/percurso/percurso/suite/PrefixTree" = some m.cls := findClass_of_methodNamed Bd.named
  have hnm := (name_of_methodNamed Bd.named Bd.method).1
  have X0 : Stand p l e ({ frames := 0, cells := 0, slots := 0, locals := 0 } : Room) s m #[(.ref a), (.int 1), (.int x), (.int 4), (.int 2)] below meth c s₁ [] 0 0 := Stand.of_body Bd
  have e0 : s₁.heap = h0 := by rw [← hh, Bd.state]; rfl
  have N0 := Fr.nil n0
  show Done p e below (PrmLK_2 s Z a x up kup ui kui ud kud uf kuf un kun pp0 pp1 pp2 pp3 pp4 ii0 ii1 ii2 ii3 ii4 dd0 dd1 dd2 dd3 dd4 ff0 ff2 ff3 ff4 nn0 nn1 nn2 nn3 nn4 h0 n0) (s₁.setTop (entryFrame m #[(.ref a), (.int 1), (.int x), (.int 4), (.int 2)] 7))
  refine Ds (B := s₁.setTop (mkF m 0 #[lR a, lI 1, lI x, lI 4, lI 2, lU, lU] [])) (fun _ k => castTop (ef_rmLK_2 m a x) k) ?_
  refine Ds (B := s₁.setTop (mkF m 1 #[lR a, lI 1, lI x, lI 4, lI 2, lU, lU] [(.ref a)])) (fun _ k => XS.aloadN X0.here hx rfl (hb hby d22_0) rfl rfl k) ?_
  obtain ⟨T1, X1, e1, st1⟩ := getF X0 hx hZ hown (host := "") (Or.inl (hw _ mm120)) Via.refl e0 F_parents (g := (mkF m 1 #[lR a, lI 1, lI x, lI 4, lI 2, lU, lU] [(.ref a)])) rfl rfl (hb hby d22_1)
  refine Ds (B := T1.setTop (mkF m 4 #[lR a, lI 1, lI x, lI 4, lI 2, lU, lU] [(.ref up)])) (fun _ k => st1 _ k) ?_
  refine Ds (B := T1.setTop (mkF m 6 #[lR a, lI 1, lI x, lI 4, lI 2, lU, lU] [(.int 1), (.int 4), (.ref up)])) (fun _ k => XS.iloadN X1.here hx rfl (hb hby d22_4) rfl (XS.iloadN X1.here hx rfl (hb hby d22_5) rfl k)) ?_
  obtain ⟨cl2, Ar2, q2, S2, M2, H2, G2⟩ := id V_parents
  have hin2 : ¬ ((4 : Int32) < 0 ∨ cl2.slots.size ≤ ((4 : Int32)).toNatClampNeg) := inb_of S2 ⟨by decide, by decide⟩
  obtain ⟨T2, h2, X2, e2, W2, st2⟩ := stI X1 hx hZ e1 Ar2 (j := (4 : Int32)) hin2 (g := (mkF m 6 #[lR a, lI 1, lI x, lI 4, lI 2, lU, lU] [(.int 1), (.int 4), (.ref up)])) rfl rfl (hb hby d22_6)
  have V2 : Arv Z h2 up kup .int 5 [(.int pp0), (.int pp1), (.int pp2), (.int pp3), (.int 1)] (.int 0) := Arv.set Ar2 q2 S2 M2 H2 G2 rfl W2 4 rfl (Nat.le_of_ble_eq_true rfl)
  have N2 := Fr.snoc X2 N0 g_up
  have Z2 : n0 ≤ h2.size := Nat.le_trans Z0 (Keep.of_wr W2).1
  have KK2 : Keep h0 h2 [up, ui, ud, uf, un] := ((Keep.refl h0 [up, ui, ud, uf, un])).wr W2 (Or.inl (List.mem_of_getElem? (i := 0) rfl))
  refine Ds (B := T2.setTop (mkF m 7 #[lR a, lI 1, lI x, lI 4, lI 2, lU, lU] [])) (fun _ k => st2 _ k) ?_
  refine Ds (B := T2.setTop (mkF m 8 #[lR a, lI 1, lI x, lI 4, lI 2, lU, lU] [(.ref a)])) (fun _ k => XS.aloadN X2.here hx rfl (hb hby d22_7) rfl rfl k) ?_
  have c4 := (Fld.other W2 F_inputs (Or.inl ne_a_up))
  obtain ⟨T3, X3, e3, st3⟩ := getF X2 hx hZ hown (host := "") (Or.inl (hw _ mm122)) Via.refl e2 c4 (g := (mkF m 8 #[lR a, lI 1, lI x, lI 4, lI 2, lU, lU] [(.ref a)])) rfl rfl (hb hby d22_8)
  refine Ds (B := T3.setTop (mkF m 11 #[lR a, lI 1, lI x, lI 4, lI 2, lU, lU] [(.ref ui)])) (fun _ k => st3 _ k) ?_
  refine Ds (B := T3.setTop (mkF m 13 #[lR a, lI 1, lI x, lI 4, lI 2, lU, lU] [(.int x), (.int 4), (.ref ui)])) (fun _ k => XS.iloadN X3.here hx rfl (hb hby d22_11) rfl (XS.iloadN X3.here hx rfl (hb hby d22_12) rfl k)) ?_
  have c6 := (V_inputs.other W2 (Ne.symm ne_up_ui))
  obtain ⟨cl5, Ar5, q5, S5, M5, H5, G5⟩ := id c6
  have hin5 : ¬ ((4 : Int32) < 0 ∨ cl5.slots.size ≤ ((4 : Int32)).toNatClampNeg) := inb_of S5 ⟨by decide, by decide⟩
  obtain ⟨T5, h5, X5, e5, W5, st5⟩ := stI X3 hx hZ e3 Ar5 (j := (4 : Int32)) hin5 (g := (mkF m 13 #[lR a, lI 1, lI x, lI 4, lI 2, lU, lU] [(.int x), (.int 4), (.ref ui)])) rfl rfl (hb hby d22_13)
  have V5 : Arv Z h5 ui kui .int 5 [(.int ii0), (.int ii1), (.int ii2), (.int ii3), (.int x)] (.int 0) := Arv.set Ar5 q5 S5 M5 H5 G5 rfl W5 4 rfl (Nat.le_of_ble_eq_true rfl)
  have N5 := Fr.snoc X5 N2 g_ui
  have Z5 : n0 ≤ h5.size := Nat.le_trans Z2 (Keep.of_wr W5).1
  have KK5 : Keep h0 h5 [up, ui, ud, uf, un] := (KK2).wr W5 (Or.inl (List.mem_of_getElem? (i := 1) rfl))
  refine Ds (B := T5.setTop (mkF m 14 #[lR a, lI 1, lI x, lI 4, lI 2, lU, lU] [])) (fun _ k => st5 _ k) ?_
  refine Ds (B := T5.setTop (mkF m 15 #[lR a, lI 1, lI x, lI 4, lI 2, lU, lU] [(.ref a)])) (fun _ k => XS.aloadN X5.here hx rfl (hb hby d22_14) rfl rfl k) ?_
  have c8 := (Fld.other W5 (Fld.other W2 F_depths (Or.inl ne_a_up)) (Or.inl ne_a_ui))
  obtain ⟨T7, X7, e7, st7⟩ := getF X5 hx hZ hown (host := "") (Or.inl (hw _ mm124)) Via.refl e5 c8 (g := (mkF m 15 #[lR a, lI 1, lI x, lI 4, lI 2, lU, lU] [(.ref a)])) rfl rfl (hb hby d22_15)
  refine Ds (B := T7.setTop (mkF m 18 #[lR a, lI 1, lI x, lI 4, lI 2, lU, lU] [(.ref ud)])) (fun _ k => st7 _ k) ?_
  refine Ds (B := T7.setTop (mkF m 21 #[lR a, lI 1, lI x, lI 4, lI 2, lU, lU] [(.int 2), (.int 4), (.ref ud)])) (fun _ k => XS.iloadN X7.here hx rfl (hb hby d22_18) rfl (XS.iload X7.here hx rfl (hb hby d22_19) rfl k)) ?_
  have c10 := ((V_depths.other W2 (Ne.symm ne_up_ud)).other W5 (Ne.symm ne_ui_ud))
  obtain ⟨cl9, Ar9, q9, S9, M9, H9, G9⟩ := id c10
  have hin9 : ¬ ((4 : Int32) < 0 ∨ cl9.slots.size ≤ ((4 : Int32)).toNatClampNeg) := inb_of S9 ⟨by decide, by decide⟩
  obtain ⟨T9, h9, X9, e9, W9, st9⟩ := stI X7 hx hZ e7 Ar9 (j := (4 : Int32)) hin9 (g := (mkF m 21 #[lR a, lI 1, lI x, lI 4, lI 2, lU, lU] [(.int 2), (.int 4), (.ref ud)])) rfl rfl (hb hby d22_21)
  have V9 : Arv Z h9 ud kud .int 5 [(.int dd0), (.int dd1), (.int dd2), (.int dd3), (.int 2)] (.int 0) := Arv.set Ar9 q9 S9 M9 H9 G9 rfl W9 4 rfl (Nat.le_of_ble_eq_true rfl)
  have N9 := Fr.snoc X9 N5 g_ud
  have Z9 : n0 ≤ h9.size := Nat.le_trans Z5 (Keep.of_wr W9).1
  have KK9 : Keep h0 h9 [up, ui, ud, uf, un] := (KK5).wr W9 (Or.inl (List.mem_of_getElem? (i := 2) rfl))
  refine Ds (B := T9.setTop (mkF m 22 #[lR a, lI 1, lI x, lI 4, lI 2, lU, lU] [])) (fun _ k => st9 _ k) ?_
  refine Ds (B := T9.setTop (mkF m 23 #[lR a, lI 1, lI x, lI 4, lI 2, lU, lU] [(.ref a)])) (fun _ k => XS.aloadN X9.here hx rfl (hb hby d22_22) rfl rfl k) ?_
  have c12 := (Fld.other W9 (Fld.other W5 (Fld.other W2 F_firstChildren (Or.inl ne_a_up)) (Or.inl ne_a_ui)) (Or.inl ne_a_ud))
  obtain ⟨T11, X11, e11, st11⟩ := getF X9 hx hZ hown (host := "") (Or.inl (hw _ mm126)) Via.refl e9 c12 (g := (mkF m 23 #[lR a, lI 1, lI x, lI 4, lI 2, lU, lU] [(.ref a)])) rfl rfl (hb hby d22_23)
  refine Ds (B := T11.setTop (mkF m 26 #[lR a, lI 1, lI x, lI 4, lI 2, lU, lU] [(.ref uf)])) (fun _ k => st11 _ k) ?_
  refine Ds (B := T11.setTop (mkF m 28 #[lR a, lI 1, lI x, lI 4, lI 2, lU, lU] [(.int (-1)), (.int 4), (.ref uf)])) (fun _ k => XS.iloadN X11.here hx rfl (hb hby d22_26) rfl (XS.iconst X11.here hx rfl (hb hby d22_27) k)) ?_
  have c14 := (((V_firstChildren.other W2 (Ne.symm ne_up_uf)).other W5 (Ne.symm ne_ui_uf)).other W9 (Ne.symm ne_ud_uf))
  obtain ⟨cl13, Ar13, q13, S13, M13, H13, G13⟩ := id c14
  have hin13 : ¬ ((4 : Int32) < 0 ∨ cl13.slots.size ≤ ((4 : Int32)).toNatClampNeg) := inb_of S13 ⟨by decide, by decide⟩
  obtain ⟨T13, h13, X13, e13, W13, st13⟩ := stI X11 hx hZ e11 Ar13 (j := (4 : Int32)) hin13 (g := (mkF m 28 #[lR a, lI 1, lI x, lI 4, lI 2, lU, lU] [(.int (-1)), (.int 4), (.ref uf)])) rfl rfl (hb hby d22_28)
  have V13 : Arv Z h13 uf kuf .int 5 [(.int ff0), (.int (-1)), (.int ff2), (.int ff3), (.int (-1))] (.int 0) := Arv.set Ar13 q13 S13 M13 H13 G13 rfl W13 4 rfl (Nat.le_of_ble_eq_true rfl)
  have N13 := Fr.snoc X13 N9 g_uf
  have Z13 : n0 ≤ h13.size := Nat.le_trans Z9 (Keep.of_wr W13).1
  have KK13 : Keep h0 h13 [up, ui, ud, uf, un] := (KK9).wr W13 (Or.inl (List.mem_of_getElem? (i := 3) rfl))
  refine Ds (B := T13.setTop (mkF m 29 #[lR a, lI 1, lI x, lI 4, lI 2, lU, lU] [])) (fun _ k => st13 _ k) ?_
  refine Ds (B := T13.setTop (mkF m 33 #[lR a, lI 1, lI x, lI 4, lI 2, lI (-1), lU] [(.ref a)])) (fun _ k => XS.iconst X13.here hx rfl (hb hby d22_29) (XS.istore X13.here hx rfl (hb hby d22_30) rfl (l' := #[lR a, lI 1, lI x, lI 4, lI 2, lI (-1), lU]) rfl (XS.aloadN X13.here hx rfl (hb hby d22_32) rfl rfl k))) ?_
  have c16 := (Fld.other W13 c12 (Or.inl ne_a_uf))
  obtain ⟨T15, X15, e15, st15⟩ := getF X13 hx hZ hown (host := "") (Or.inl (hw _ mm126)) Via.refl e13 c16 (g := (mkF m 33 #[lR a, lI 1, lI x, lI 4, lI 2, lI (-1), lU] [(.ref a)])) rfl rfl (hb hby d22_33)
  refine Ds (B := T15.setTop (mkF m 36 #[lR a, lI 1, lI x, lI 4, lI 2, lI (-1), lU] [(.ref uf)])) (fun _ k => st15 _ k) ?_
  refine Ds (B := T15.setTop (mkF m 37 #[lR a, lI 1, lI x, lI 4, lI 2, lI (-1), lU] [(.int 1), (.ref uf)])) (fun _ k => XS.iloadN X15.here hx rfl (hb hby d22_36) rfl k) ?_
  obtain ⟨cl17, Ar17, q17, S17, M17, H17, G17⟩ := id V13
  have hin17 : ¬ ((1 : Int32) < 0 ∨ cl17.slots.size ≤ ((1 : Int32)).toNatClampNeg) := inb_of S17 ⟨by decide, by decide⟩
  have hat17 : cl17.slots[((1 : Int32)).toNatClampNeg]? = some (.int (-1)) := Has.at H17 hin17 rfl
  refine Ds (B := T15.setTop (mkF m 38 #[lR a, lI 1, lI x, lI 4, lI 2, lI (-1), lU] [(.int (-1))])) (fun _ k => X15.iaload hx (j := (1 : Int32)) (v := (.int (-1))) (by rw [e15]; exact Ar17.1) (State.isArrayOf_alike hZ.alike Ar17.2.1) Ar17.2.2 hin17 hat17 (g := (mkF m 37 #[lR a, lI 1, lI x, lI 4, lI 2, lI (-1), lU] [(.int 1), (.ref uf)])) rfl rfl (hb hby d22_37) _ k) ?_
  refine Ds (B := T15.setTop (mkF m 74 #[lR a, lI 1, lI x, lI 4, lI 2, lI (-1), lI (-1)] [(.ref a)])) (fun _ k => XS.istore X15.here hx rfl (hb hby d22_38) rfl (l' := #[lR a, lI 1, lI x, lI 4, lI 2, lI (-1), lI (-1)]) rfl (XS.iload X15.here hx rfl (hb hby d22_40) rfl (XS.iconst X15.here hx rfl (hb hby d22_42) (XS.icmpYes X15.here hx rfl (pc0 := 43) (pc' := 73) rfl (hb hby d22_43) rfl (teq (rfl : (-1 : Int32) = (-1 : Int32))).1 (by decide) (by decide) (XS.aloadN X15.here hx rfl (hb hby d22_73) rfl rfl k))))) ?_
  have c19 := (Fld.other W13 (Fld.other W9 (Fld.other W5 (Fld.other W2 F_nextSiblings (Or.inl ne_a_up)) (Or.inl ne_a_ui)) (Or.inl ne_a_ud)) (Or.inl ne_a_uf))
  obtain ⟨T18, X18, e18, st18⟩ := getF X15 hx hZ hown (host := "") (Or.inl (hw _ mm128)) Via.refl e15 c19 (g := (mkF m 74 #[lR a, lI 1, lI x, lI 4, lI 2, lI (-1), lI (-1)] [(.ref a)])) rfl rfl (hb hby d22_74)
  refine Ds (B := T18.setTop (mkF m 77 #[lR a, lI 1, lI x, lI 4, lI 2, lI (-1), lI (-1)] [(.ref un)])) (fun _ k => st18 _ k) ?_
  refine Ds (B := T18.setTop (mkF m 80 #[lR a, lI 1, lI x, lI 4, lI 2, lI (-1), lI (-1)] [(.int (-1)), (.int 4), (.ref un)])) (fun _ k => XS.iloadN X18.here hx rfl (hb hby d22_77) rfl (XS.iload X18.here hx rfl (hb hby d22_78) rfl k)) ?_
  have c21 := ((((V_nextSiblings.other W2 (Ne.symm ne_up_un)).other W5 (Ne.symm ne_ui_un)).other W9 (Ne.symm ne_ud_un)).other W13 (Ne.symm ne_uf_un))
  obtain ⟨cl20, Ar20, q20, S20, M20, H20, G20⟩ := id c21
  have hin20 : ¬ ((4 : Int32) < 0 ∨ cl20.slots.size ≤ ((4 : Int32)).toNatClampNeg) := inb_of S20 ⟨by decide, by decide⟩
  obtain ⟨T20, h20, X20, e20, W20, st20⟩ := stI X18 hx hZ e18 Ar20 (j := (4 : Int32)) hin20 (g := (mkF m 80 #[lR a, lI 1, lI x, lI 4, lI 2, lI (-1), lI (-1)] [(.int (-1)), (.int 4), (.ref un)])) rfl rfl (hb hby d22_80)
  have V20 : Arv Z h20 un kun .int 5 [(.int nn0), (.int nn1), (.int nn2), (.int nn3), (.int (-1))] (.int 0) := Arv.set Ar20 q20 S20 M20 H20 G20 rfl W20 4 rfl (Nat.le_of_ble_eq_true rfl)
  have N20 := Fr.snoc X20 N13 g_un
  have Z20 : n0 ≤ h20.size := Nat.le_trans Z13 (Keep.of_wr W20).1
  have KK20 : Keep h0 h20 [up, ui, ud, uf, un] := (KK13).wr W20 (Or.inl (List.mem_of_getElem? (i := 4) rfl))
  refine Ds (B := T20.setTop (mkF m 81 #[lR a, lI 1, lI x, lI 4, lI 2, lI (-1), lI (-1)] [])) (fun _ k => st20 _ k) ?_
  refine Ds (B := T20.setTop (mkF m 88 #[lR a, lI 1, lI x, lI 4, lI 2, lI (-1), lI (-1)] [(.ref a)])) (fun _ k => XS.iload X20.here hx rfl (hb hby d22_81) rfl (XS.iconst X20.here hx rfl (hb hby d22_83) (XS.icmpNo X20.here hx rfl (hb hby d22_84) rfl (teq (rfl : (-1 : Int32) = (-1 : Int32))).2 (XS.aloadN X20.here hx rfl (hb hby d22_87) rfl rfl k)))) ?_
  have c23 := (Fld.other W20 c16 (Or.inl ne_a_un))
  obtain ⟨T22, X22, e22, st22⟩ := getF X20 hx hZ hown (host := "") (Or.inl (hw _ mm126)) Via.refl e20 c23 (g := (mkF m 88 #[lR a, lI 1, lI x, lI 4, lI 2, lI (-1), lI (-1)] [(.ref a)])) rfl rfl (hb hby d22_88)
  refine Ds (B := T22.setTop (mkF m 91 #[lR a, lI 1, lI x, lI 4, lI 2, lI (-1), lI (-1)] [(.ref uf)])) (fun _ k => st22 _ k) ?_
  refine Ds (B := T22.setTop (mkF m 93 #[lR a, lI 1, lI x, lI 4, lI 2, lI (-1), lI (-1)] [(.int 4), (.int 1), (.ref uf)])) (fun _ k => XS.iloadN X22.here hx rfl (hb hby d22_91) rfl (XS.iloadN X22.here hx rfl (hb hby d22_92) rfl k)) ?_
  have c25 := (V13.other W20 ne_uf_un)
  obtain ⟨cl24, Ar24, q24, S24, M24, H24, G24⟩ := id c25
  have hin24 : ¬ ((1 : Int32) < 0 ∨ cl24.slots.size ≤ ((1 : Int32)).toNatClampNeg) := inb_of S24 ⟨by decide, by decide⟩
  obtain ⟨T24, h24, X24, e24, W24, st24⟩ := stI X22 hx hZ e22 Ar24 (j := (1 : Int32)) hin24 (g := (mkF m 93 #[lR a, lI 1, lI x, lI 4, lI 2, lI (-1), lI (-1)] [(.int 4), (.int 1), (.ref uf)])) rfl rfl (hb hby d22_93)
  have V24 : Arv Z h24 uf kuf .int 5 [(.int ff0), (.int 4), (.int ff2), (.int ff3), (.int (-1))] (.int 0) := Arv.set Ar24 q24 S24 M24 H24 G24 rfl W24 1 rfl (Nat.le_of_ble_eq_true rfl)
  have N24 := Fr.snoc X24 N20 g_uf
  have Z24 : n0 ≤ h24.size := Nat.le_trans Z20 (Keep.of_wr W24).1
  have KK24 : Keep h0 h24 [up, ui, ud, uf, un] := (KK20).wr W24 (Or.inl (List.mem_of_getElem? (i := 3) rfl))
  refine Ds (B := T24.setTop (mkF m 94 #[lR a, lI 1, lI x, lI 4, lI 2, lI (-1), lI (-1)] [])) (fun _ k => st24 _ k) ?_
  refine Ds (B := T24.setTop (mkF m 105 #[lR a, lI 1, lI x, lI 4, lI 2, lI (-1), lI (-1)] [])) (fun _ k => XS.goto X24.here hx rfl (pc0 := 94) (pc' := 105) rfl (hb hby d22_94) (by decide) (by decide) k) ?_
  obtain ⟨fs, hr, hrun, hended, hW, hsame⟩ := X24.leave (v := none) (hlocks := hlk) (fun _ => rfl)
  have c27 := (((((V2.other W5 ne_up_ui).other W9 ne_up_ud).other W13 ne_up_uf).other W20 ne_up_un).other W24 ne_up_uf)
  have c28 := ((((V5.other W9 ne_ui_ud).other W13 ne_ui_uf).other W20 ne_ui_un).other W24 ne_ui_uf)
  have c29 := (((V9.other W13 ne_ud_uf).other W20 ne_ud_un).other W24 ne_ud_uf)
  have c30 := (V20.other W24 (Ne.symm ne_uf_un))
  refine Done.fin (X24.returnOut hx Bd.returns (hb hby d22_105) hr) hrun hended ⟨_, _, rfl, ?_, ⟨_, rfl⟩, hW, hsame.mono (by decide) (by decide)⟩
  show QrmLK_2 Z a x up kup ui kui ud kud uf kuf un kun pp0 pp1 pp2 pp3 pp4 ii0 ii1 ii2 ii3 ii4 dd0 dd1 dd2 dd3 dd4 ff0 ff2 ff3 ff4 nn0 nn1 nn2 nn3 nn4 h0 n0 _ T24.heap _
  rw [e24]
  exact ⟨rfl, N24, KK24, ⟨c27, c28, c29, V24, c30⟩⟩
theorem ef_rmLK_3 (m : MethodId) (a : Addr) (x : Int32) : entryFrame m #[(.ref a), (.int 0), (.int x), (.int 2), (.int 1)] 7 = mkF m 0 #[lR a, lI 0, lI x, lI 2, lI 1, lU, lU] [] := by first | (simp [entryFrame, mkF, argsToLocals, Value.category]; done) | rfl
def QrmLK_3 (Z : State) (a : Addr) (x : Int32) (up : Addr) (kup : ClassId) (ui : Addr) (kui : ClassId) (ud : Addr) (kud : ClassId) (uf : Addr) (kuf : ClassId) (un : Addr) (kun : ClassId) (pp0 : Int32) (pp1 : Int32) (pp2 : Int32) (pp3 : Int32) (pp4 : Int32) (ii0 : Int32) (ii1 : Int32) (ii2 : Int32) (ii3 : Int32) (ii4 : Int32) (dd0 : Int32) (dd1 : Int32) (dd2 : Int32) (dd3 : Int32) (dd4 : Int32) (ff1 : Int32) (ff2 : Int32) (ff3 : Int32) (ff4 : Int32) (nn0 : Int32) (nn2 : Int32) (nn3 : Int32) (nn4 : Int32) (h0 : Heap) (n0 : Nat) (v : Option Value) (h : Heap) (L : List Loc) : Prop := v = none ∧ Fr n0 L ∧ Keep h0 h [up, ui, ud, uf, un] ∧ (¬ ii1 < x → (Arv Z h up kup .int 5 [(.int pp0), (.int pp1), (.int 0), (.int pp3), (.int pp4)] (.int 0) ∧ Arv Z h ui kui .int 5 [(.int ii0), (.int ii1), (.int x), (.int ii3), (.int ii4)] (.int 0) ∧ Arv Z h ud kud .int 5 [(.int dd0), (.int dd1), (.int 1), (.int dd3), (.int dd4)] (.int 0) ∧ Arv Z h uf kuf .int 5 [(.int 2), (.int ff1), (.int (-1)), (.int ff3), (.int ff4)] (.int 0) ∧ Arv Z h un kun .int 5 [(.int nn0), (.int (-1)), (.int 1), (.int nn3), (.int nn4)] (.int 0))) ∧ (ii1 < x → (Arv Z h up kup .int 5 [(.int pp0), (.int pp1), (.int 0), (.int pp3), (.int pp4)] (.int 0) ∧ Arv Z h ui kui .int 5 [(.int ii0), (.int ii1), (.int x), (.int ii3), (.int ii4)] (.int 0) ∧ Arv Z h ud kud .int 5 [(.int dd0), (.int dd1), (.int 1), (.int dd3), (.int dd4)] (.int 0) ∧ Arv Z h uf kuf .int 5 [(.int 1), (.int ff1), (.int (-1)), (.int ff3), (.int ff4)] (.int 0) ∧ Arv Z h un kun .int 5 [(.int nn0), (.int 2), (.int (-1)), (.int nn3), (.int nn4)] (.int 0)))
def PrmLK_3 (s : State) (Z : State) (a : Addr) (x : Int32) (up : Addr) (kup : ClassId) (ui : Addr) (kui : ClassId) (ud : Addr) (kud : ClassId) (uf : Addr) (kuf : ClassId) (un : Addr) (kun : ClassId) (pp0 : Int32) (pp1 : Int32) (pp2 : Int32) (pp3 : Int32) (pp4 : Int32) (ii0 : Int32) (ii1 : Int32) (ii2 : Int32) (ii3 : Int32) (ii4 : Int32) (dd0 : Int32) (dd1 : Int32) (dd2 : Int32) (dd3 : Int32) (dd4 : Int32) (ff1 : Int32) (ff2 : Int32) (ff3 : Int32) (ff4 : Int32) (nn0 : Int32) (nn2 : Int32) (nn3 : Int32) (nn4 : Int32) (h0 : Heap) (n0 : Nat) : State → Outcome → Prop := fun U' o => ∃ v L, o = .returned v ∧ QrmLK_3 Z a x up kup ui kui ud kud uf kuf un kun pp0 pp1 pp2 pp3 pp4 ii0 ii1 ii2 ii3 ii4 dd0 dd1 dd2 dd3 dd4 ff1 ff2 ff3 ff4 nn0 nn2 nn3 nn4 h0 n0 v U'.heap L ∧ FrameEnd s o U' L ({ frames := 0, cells := 0, slots := 0, locals := 0 } : Room).cells ({ frames := 0, cells := 0, slots := 0, locals := 0 } : Room).slots
set_option maxRecDepth 65536 in
set_option maxHeartbeats 40000000 in
theorem rmLK_3 (l : Launch) (Z : State) (a0 : Array Value) (hw : ∀ d ∈ tables_1, d.before a0 Z = true) (ws : List Jvm.Cond) (a : Addr) (x : Int32) (up : Addr) (kup : ClassId) (ui : Addr) (kui : ClassId) (ud : Addr) (kud : ClassId) (uf : Addr) (kuf : ClassId) (un : Addr) (kun : ClassId) (pp0 : Int32) (pp1 : Int32) (pp2 : Int32) (pp3 : Int32) (pp4 : Int32) (ii0 : Int32) (ii1 : Int32) (ii2 : Int32) (ii3 : Int32) (ii4 : Int32) (dd0 : Int32) (dd1 : Int32) (dd2 : Int32) (dd3 : Int32) (dd4 : Int32) (ff1 : Int32) (ff2 : Int32) (ff3 : Int32) (ff4 : Int32) (nn0 : Int32) (nn2 : Int32) (nn3 : Int32) (nn4 : Int32) (h0 : Heap) (n0 : Nat) (Z0 : n0 ≤ h0.size) (F_parents : Fld Z h0 a "com/example/percurso/percurso/suite/PrefixTree" "parents" "[I" (.ref up)) (F_inputs : Fld Z h0 a "com/example/percurso/percurso/suite/PrefixTree" "inputs" "[I" (.ref ui)) (F_depths : Fld Z h0 a "com/example/percurso/percurso/suite/PrefixTree" "depths" "[I" (.ref ud)) (F_firstChildren : Fld Z h0 a "com/example/percurso/percurso/suite/PrefixTree" "firstChildren" "[I" (.ref uf)) (F_nextSiblings : Fld Z h0 a "com/example/percurso/percurso/suite/PrefixTree" "nextSiblings" "[I" (.ref un)) (V_parents : Arv Z h0 up kup .int 5 [(.int pp0), (.int pp1), (.int pp2), (.int pp3), (.int pp4)] (.int 0)) (V_inputs : Arv Z h0 ui kui .int 5 [(.int ii0), (.int ii1), (.int ii2), (.int ii3), (.int ii4)] (.int 0)) (V_depths : Arv Z h0 ud kud .int 5 [(.int dd0), (.int dd1), (.int dd2), (.int dd3), (.int dd4)] (.int 0)) (V_firstChildren : Arv Z h0 uf kuf .int 5 [(.int 1), (.int ff1), (.int ff2), (.int ff3), (.int ff4)] (.int 0)) (V_nextSiblings : Arv Z h0 un kun .int 5 [(.int nn0), (.int (-1)), (.int nn2), (.int nn3), (.int nn4)] (.int 0)) (g_up : n0 ≤ up) (g_ui : n0 ≤ ui) (g_ud : n0 ≤ ud) (g_uf : n0 ≤ uf) (g_un : n0 ≤ un) (ne_up_ui : up ≠ ui) (ne_up_ud : up ≠ ud) (ne_up_uf : up ≠ uf) (ne_up_un : up ≠ un) (ne_ui_ud : ui ≠ ud) (ne_ui_uf : ui ≠ uf) (ne_ui_un : ui ≠ un) (ne_ud_uf : ud ≠ uf) (ne_ud_un : ud ≠ un) (ne_uf_un : uf ≠ un) (ne_a_up : a ≠ up) (ne_a_ui : a ≠ ui) (ne_a_ud : a ≠ ud) (ne_a_uf : a ≠ uf) (ne_a_un : a ≠ un) :
    MetFree l (⟨"com/example/percurso/percurso/suite/PrefixTree", "link", "(IIII)V"⟩ : MethodName) (head1 (Jvm.Cond.code (⟨"com/example/percurso/percurso/suite/PrefixTree", "link", "(IIII)V"⟩ : MethodName) prog_191_method_2_code 7 none :: ws) ({ frames := 0, cells := 0, slots := 0, locals := 0 } : Room)) (fun aa U => aa = #[(.ref a), (.int 0), (.int x), (.int 2), (.int 1)] ∧ Z.Warmed39 U.vm ∧ U.heap = h0) (fun _ _ _ _ _ => True) (fun _ U o U' => ∃ v L, o = .returned v ∧ QrmLK_3 Z a x up kup ui kui ud kud uf kuf un kun pp0 pp1 pp2 pp3 pp4 ii0 ii1 ii2 ii3 ii4 dd0 dd1 dd2 dd3 dd4 ff1 ff2 ff3 ff4 nn0 nn2 nn3 nn4 h0 n0 v U'.heap L ∧ FrameEnd U o U' L ({ frames := 0, cells := 0, slots := 0, locals := 0 } : Room).cells ({ frames := 0, cells := 0, slots := 0, locals := 0 } : Room).slots) := by
  refine MetFree.of_bodySF (plainFor_of_name pn_6) hisR ?_
  intro p e s m args below meth c s₁ Bd hml0 hP hK
  obtain ⟨rfl, hZ, hh⟩ := hP
  have hx := Bd.exec
  have hlk : meth.locks = false := by first | exact BodyLoose.notSynchronized Bd | exact Body.notSynchronized Bd
  have hby := Bd.bytes
  have hml : c.maxLocals = 7 := hml0
  have hown : s.vm.findClass "com/example/percurso/percurso/suite/PrefixTree" = some m.cls := findClass_of_methodNamed Bd.named
  have hnm := (name_of_methodNamed Bd.named Bd.method).1
  have X0 : Stand p l e ({ frames := 0, cells := 0, slots := 0, locals := 0 } : Room) s m #[(.ref a), (.int 0), (.int x), (.int 2), (.int 1)] below meth c s₁ [] 0 0 := Stand.of_body Bd
  have e0 : s₁.heap = h0 := by rw [← hh, Bd.state]; rfl
  have N0 := Fr.nil n0
  show Done p e below (PrmLK_3 s Z a x up kup ui kui ud kud uf kuf un kun pp0 pp1 pp2 pp3 pp4 ii0 ii1 ii2 ii3 ii4 dd0 dd1 dd2 dd3 dd4 ff1 ff2 ff3 ff4 nn0 nn2 nn3 nn4 h0 n0) (s₁.setTop (entryFrame m #[(.ref a), (.int 0), (.int x), (.int 2), (.int 1)] 7))
  refine Ds (B := s₁.setTop (mkF m 0 #[lR a, lI 0, lI x, lI 2, lI 1, lU, lU] [])) (fun _ k => castTop (ef_rmLK_3 m a x) k) ?_
  refine Ds (B := s₁.setTop (mkF m 1 #[lR a, lI 0, lI x, lI 2, lI 1, lU, lU] [(.ref a)])) (fun _ k => XS.aloadN X0.here hx rfl (hb hby d22_0) rfl rfl k) ?_
  obtain ⟨T1, X1, e1, st1⟩ := getF X0 hx hZ hown (host := "") (Or.inl (hw _ mm120)) Via.refl e0 F_parents (g := (mkF m 1 #[lR a, lI 0, lI x, lI 2, lI 1, lU, lU] [(.ref a)])) rfl rfl (hb hby d22_1)
  refine Ds (B := T1.setTop (mkF m 4 #[lR a, lI 0, lI x, lI 2, lI 1, lU, lU] [(.ref up)])) (fun _ k => st1 _ k) ?_
  refine Ds (B := T1.setTop (mkF m 6 #[lR a, lI 0, lI x, lI 2, lI 1, lU, lU] [(.int 0), (.int 2), (.ref up)])) (fun _ k => XS.iloadN X1.here hx rfl (hb hby d22_4) rfl (XS.iloadN X1.here hx rfl (hb hby d22_5) rfl k)) ?_
  obtain ⟨cl2, Ar2, q2, S2, M2, H2, G2⟩ := id V_parents
  have hin2 : ¬ ((2 : Int32) < 0 ∨ cl2.slots.size ≤ ((2 : Int32)).toNatClampNeg) := inb_of S2 ⟨by decide, by decide⟩
  obtain ⟨T2, h2, X2, e2, W2, st2⟩ := stI X1 hx hZ e1 Ar2 (j := (2 : Int32)) hin2 (g := (mkF m 6 #[lR a, lI 0, lI x, lI 2, lI 1, lU, lU] [(.int 0), (.int 2), (.ref up)])) rfl rfl (hb hby d22_6)
  have V2 : Arv Z h2 up kup .int 5 [(.int pp0), (.int pp1), (.int 0), (.int pp3), (.int pp4)] (.int 0) := Arv.set Ar2 q2 S2 M2 H2 G2 rfl W2 2 rfl (Nat.le_of_ble_eq_true rfl)
  have N2 := Fr.snoc X2 N0 g_up
  have Z2 : n0 ≤ h2.size := Nat.le_trans Z0 (Keep.of_wr W2).1
  have KK2 : Keep h0 h2 [up, ui, ud, uf, un] := ((Keep.refl h0 [up, ui, ud, uf, un])).wr W2 (Or.inl (List.mem_of_getElem? (i := 0) rfl))
  refine Ds (B := T2.setTop (mkF m 7 #[lR a, lI 0, lI x, lI 2, lI 1, lU, lU] [])) (fun _ k => st2 _ k) ?_
  refine Ds (B := T2.setTop (mkF m 8 #[lR a, lI 0, lI x, lI 2, lI 1, lU, lU] [(.ref a)])) (fun _ k => XS.aloadN X2.here hx rfl (hb hby d22_7) rfl rfl k) ?_
  have c4 := (Fld.other W2 F_inputs (Or.inl ne_a_up))
  obtain ⟨T3, X3, e3, st3⟩ := getF X2 hx hZ hown (host := "") (Or.inl (hw _ mm122)) Via.refl e2 c4 (g := (mkF m 8 #[lR a, lI 0, lI x, lI 2, lI 1, lU, lU] [(.ref a)])) rfl rfl (hb hby d22_8)
  refine Ds (B := T3.setTop (mkF m 11 #[lR a, lI 0, lI x, lI 2, lI 1, lU, lU] [(.ref ui)])) (fun _ k => st3 _ k) ?_
  refine Ds (B := T3.setTop (mkF m 13 #[lR a, lI 0, lI x, lI 2, lI 1, lU, lU] [(.int x), (.int 2), (.ref ui)])) (fun _ k => XS.iloadN X3.here hx rfl (hb hby d22_11) rfl (XS.iloadN X3.here hx rfl (hb hby d22_12) rfl k)) ?_
  have c6 := (V_inputs.other W2 (Ne.symm ne_up_ui))
  obtain ⟨cl5, Ar5, q5, S5, M5, H5, G5⟩ := id c6
  have hin5 : ¬ ((2 : Int32) < 0 ∨ cl5.slots.size ≤ ((2 : Int32)).toNatClampNeg) := inb_of S5 ⟨by decide, by decide⟩
  obtain ⟨T5, h5, X5, e5, W5, st5⟩ := stI X3 hx hZ e3 Ar5 (j := (2 : Int32)) hin5 (g := (mkF m 13 #[lR a, lI 0, lI x, lI 2, lI 1, lU, lU] [(.int x), (.int 2), (.ref ui)])) rfl rfl (hb hby d22_13)
  have V5 : Arv Z h5 ui kui .int 5 [(.int ii0), (.int ii1), (.int x), (.int ii3), (.int ii4)] (.int 0) := Arv.set Ar5 q5 S5 M5 H5 G5 rfl W5 2 rfl (Nat.le_of_ble_eq_true rfl)
  have N5 := Fr.snoc X5 N2 g_ui
  have Z5 : n0 ≤ h5.size := Nat.le_trans Z2 (Keep.of_wr W5).1
  have KK5 : Keep h0 h5 [up, ui, ud, uf, un] := (KK2).wr W5 (Or.inl (List.mem_of_getElem? (i := 1) rfl))
  refine Ds (B := T5.setTop (mkF m 14 #[lR a, lI 0, lI x, lI 2, lI 1, lU, lU] [])) (fun _ k => st5 _ k) ?_
  refine Ds (B := T5.setTop (mkF m 15 #[lR a, lI 0, lI x, lI 2, lI 1, lU, lU] [(.ref a)])) (fun _ k => XS.aloadN X5.here hx rfl (hb hby d22_14) rfl rfl k) ?_
  have c8 := (Fld.other W5 (Fld.other W2 F_depths (Or.inl ne_a_up)) (Or.inl ne_a_ui))
  obtain ⟨T7, X7, e7, st7⟩ := getF X5 hx hZ hown (host := "") (Or.inl (hw _ mm124)) Via.refl e5 c8 (g := (mkF m 15 #[lR a, lI 0, lI x, lI 2, lI 1, lU, lU] [(.ref a)])) rfl rfl (hb hby d22_15)
  refine Ds (B := T7.setTop (mkF m 18 #[lR a, lI 0, lI x, lI 2, lI 1, lU, lU] [(.ref ud)])) (fun _ k => st7 _ k) ?_
  refine Ds (B := T7.setTop (mkF m 21 #[lR a, lI 0, lI x, lI 2, lI 1, lU, lU] [(.int 1), (.int 2), (.ref ud)])) (fun _ k => XS.iloadN X7.here hx rfl (hb hby d22_18) rfl (XS.iload X7.here hx rfl (hb hby d22_19) rfl k)) ?_
  have c10 := ((V_depths.other W2 (Ne.symm ne_up_ud)).other W5 (Ne.symm ne_ui_ud))
  obtain ⟨cl9, Ar9, q9, S9, M9, H9, G9⟩ := id c10
  have hin9 : ¬ ((2 : Int32) < 0 ∨ cl9.slots.size ≤ ((2 : Int32)).toNatClampNeg) := inb_of S9 ⟨by decide, by decide⟩
  obtain ⟨T9, h9, X9, e9, W9, st9⟩ := stI X7 hx hZ e7 Ar9 (j := (2 : Int32)) hin9 (g := (mkF m 21 #[lR a, lI 0, lI x, lI 2, lI 1, lU, lU] [(.int 1), (.int 2), (.ref ud)])) rfl rfl (hb hby d22_21)
  have V9 : Arv Z h9 ud kud .int 5 [(.int dd0), (.int dd1), (.int 1), (.int dd3), (.int dd4)] (.int 0) := Arv.set Ar9 q9 S9 M9 H9 G9 rfl W9 2 rfl (Nat.le_of_ble_eq_true rfl)
  have N9 := Fr.snoc X9 N5 g_ud
  have Z9 : n0 ≤ h9.size := Nat.le_trans Z5 (Keep.of_wr W9).1
  have KK9 : Keep h0 h9 [up, ui, ud, uf, un] := (KK5).wr W9 (Or.inl (List.mem_of_getElem? (i := 2) rfl))
  refine Ds (B := T9.setTop (mkF m 22 #[lR a, lI 0, lI x, lI 2, lI 1, lU, lU] [])) (fun _ k => st9 _ k) ?_
  refine Ds (B := T9.setTop (mkF m 23 #[lR a, lI 0, lI x, lI 2, lI 1, lU, lU] [(.ref a)])) (fun _ k => XS.aloadN X9.here hx rfl (hb hby d22_22) rfl rfl k) ?_
  have c12 := (Fld.other W9 (Fld.other W5 (Fld.other W2 F_firstChildren (Or.inl ne_a_up)) (Or.inl ne_a_ui)) (Or.inl ne_a_ud))
  obtain ⟨T11, X11, e11, st11⟩ := getF X9 hx hZ hown (host := "") (Or.inl (hw _ mm126)) Via.refl e9 c12 (g := (mkF m 23 #[lR a, lI 0, lI x, lI 2, lI 1, lU, lU] [(.ref a)])) rfl rfl (hb hby d22_23)
  refine Ds (B := T11.setTop (mkF m 26 #[lR a, lI 0, lI x, lI 2, lI 1, lU, lU] [(.ref uf)])) (fun _ k => st11 _ k) ?_
  refine Ds (B := T11.setTop (mkF m 28 #[lR a, lI 0, lI x, lI 2, lI 1, lU, lU] [(.int (-1)), (.int 2), (.ref uf)])) (fun _ k => XS.iloadN X11.here hx rfl (hb hby d22_26) rfl (XS.iconst X11.here hx rfl (hb hby d22_27) k)) ?_
  have c14 := (((V_firstChildren.other W2 (Ne.symm ne_up_uf)).other W5 (Ne.symm ne_ui_uf)).other W9 (Ne.symm ne_ud_uf))
  obtain ⟨cl13, Ar13, q13, S13, M13, H13, G13⟩ := id c14
  have hin13 : ¬ ((2 : Int32) < 0 ∨ cl13.slots.size ≤ ((2 : Int32)).toNatClampNeg) := inb_of S13 ⟨by decide, by decide⟩
  obtain ⟨T13, h13, X13, e13, W13, st13⟩ := stI X11 hx hZ e11 Ar13 (j := (2 : Int32)) hin13 (g := (mkF m 28 #[lR a, lI 0, lI x, lI 2, lI 1, lU, lU] [(.int (-1)), (.int 2), (.ref uf)])) rfl rfl (hb hby d22_28)
  have V13 : Arv Z h13 uf kuf .int 5 [(.int 1), (.int ff1), (.int (-1)), (.int ff3), (.int ff4)] (.int 0) := Arv.set Ar13 q13 S13 M13 H13 G13 rfl W13 2 rfl (Nat.le_of_ble_eq_true rfl)
  have N13 := Fr.snoc X13 N9 g_uf
  have Z13 : n0 ≤ h13.size := Nat.le_trans Z9 (Keep.of_wr W13).1
  have KK13 : Keep h0 h13 [up, ui, ud, uf, un] := (KK9).wr W13 (Or.inl (List.mem_of_getElem? (i := 3) rfl))
  refine Ds (B := T13.setTop (mkF m 29 #[lR a, lI 0, lI x, lI 2, lI 1, lU, lU] [])) (fun _ k => st13 _ k) ?_
  refine Ds (B := T13.setTop (mkF m 33 #[lR a, lI 0, lI x, lI 2, lI 1, lI (-1), lU] [(.ref a)])) (fun _ k => XS.iconst X13.here hx rfl (hb hby d22_29) (XS.istore X13.here hx rfl (hb hby d22_30) rfl (l' := #[lR a, lI 0, lI x, lI 2, lI 1, lI (-1), lU]) rfl (XS.aloadN X13.here hx rfl (hb hby d22_32) rfl rfl k))) ?_
  have c16 := (Fld.other W13 c12 (Or.inl ne_a_uf))
  obtain ⟨T15, X15, e15, st15⟩ := getF X13 hx hZ hown (host := "") (Or.inl (hw _ mm126)) Via.refl e13 c16 (g := (mkF m 33 #[lR a, lI 0, lI x, lI 2, lI 1, lI (-1), lU] [(.ref a)])) rfl rfl (hb hby d22_33)
  refine Ds (B := T15.setTop (mkF m 36 #[lR a, lI 0, lI x, lI 2, lI 1, lI (-1), lU] [(.ref uf)])) (fun _ k => st15 _ k) ?_
  refine Ds (B := T15.setTop (mkF m 37 #[lR a, lI 0, lI x, lI 2, lI 1, lI (-1), lU] [(.int 0), (.ref uf)])) (fun _ k => XS.iloadN X15.here hx rfl (hb hby d22_36) rfl k) ?_
  obtain ⟨cl17, Ar17, q17, S17, M17, H17, G17⟩ := id V13
  have hin17 : ¬ ((0 : Int32) < 0 ∨ cl17.slots.size ≤ ((0 : Int32)).toNatClampNeg) := inb_of S17 ⟨by decide, by decide⟩
  have hat17 : cl17.slots[((0 : Int32)).toNatClampNeg]? = some (.int 1) := Has.at H17 hin17 rfl
  refine Ds (B := T15.setTop (mkF m 38 #[lR a, lI 0, lI x, lI 2, lI 1, lI (-1), lU] [(.int 1)])) (fun _ k => X15.iaload hx (j := (0 : Int32)) (v := (.int 1)) (by rw [e15]; exact Ar17.1) (State.isArrayOf_alike hZ.alike Ar17.2.1) Ar17.2.2 hin17 hat17 (g := (mkF m 37 #[lR a, lI 0, lI x, lI 2, lI 1, lI (-1), lU] [(.int 0), (.ref uf)])) rfl rfl (hb hby d22_37) _ k) ?_
  refine Ds (B := T15.setTop (mkF m 47 #[lR a, lI 0, lI x, lI 2, lI 1, lI (-1), lI 1] [(.ref a)])) (fun _ k => XS.istore X15.here hx rfl (hb hby d22_38) rfl (l' := #[lR a, lI 0, lI x, lI 2, lI 1, lI (-1), lI 1]) rfl (XS.iload X15.here hx rfl (hb hby d22_40) rfl (XS.iconst X15.here hx rfl (hb hby d22_42) (XS.icmpNo X15.here hx rfl (hb hby d22_43) rfl (feq (by decide : ¬ ((1 : Int32) = (-1 : Int32)))).1 (XS.aloadN X15.here hx rfl (hb hby d22_46) rfl rfl k))))) ?_
  have c19 := (Fld.other W13 (Fld.other W9 (Fld.other W5 c4 (Or.inl ne_a_ui)) (Or.inl ne_a_ud)) (Or.inl ne_a_uf))
  obtain ⟨T18, X18, e18, st18⟩ := getF X15 hx hZ hown (host := "") (Or.inl (hw _ mm122)) Via.refl e15 c19 (g := (mkF m 47 #[lR a, lI 0, lI x, lI 2, lI 1, lI (-1), lI 1] [(.ref a)])) rfl rfl (hb hby d22_47)
  refine Ds (B := T18.setTop (mkF m 50 #[lR a, lI 0, lI x, lI 2, lI 1, lI (-1), lI 1] [(.ref ui)])) (fun _ k => st18 _ k) ?_
  refine Ds (B := T18.setTop (mkF m 52 #[lR a, lI 0, lI x, lI 2, lI 1, lI (-1), lI 1] [(.int 1), (.ref ui)])) (fun _ k => XS.iload X18.here hx rfl (hb hby d22_50) rfl k) ?_
  have c21 := ((V5.other W9 ne_ui_ud).other W13 ne_ui_uf)
  obtain ⟨cl20, Ar20, q20, S20, M20, H20, G20⟩ := id c21
  have hin20 : ¬ ((1 : Int32) < 0 ∨ cl20.slots.size ≤ ((1 : Int32)).toNatClampNeg) := inb_of S20 ⟨by decide, by decide⟩
  have hat20 : cl20.slots[((1 : Int32)).toNatClampNeg]? = some (.int ii1) := Has.at H20 hin20 rfl
  refine Ds (B := T18.setTop (mkF m 53 #[lR a, lI 0, lI x, lI 2, lI 1, lI (-1), lI 1] [(.int ii1)])) (fun _ k => X18.iaload hx (j := (1 : Int32)) (v := (.int ii1)) (by rw [e18]; exact Ar20.1) (State.isArrayOf_alike hZ.alike Ar20.2.1) Ar20.2.2 hin20 hat20 (g := (mkF m 52 #[lR a, lI 0, lI x, lI 2, lI 1, lI (-1), lI 1] [(.int 1), (.ref ui)])) rfl rfl (hb hby d22_52) _ k) ?_
  refine Ds (B := T18.setTop (mkF m 54 #[lR a, lI 0, lI x, lI 2, lI 1, lI (-1), lI 1] [(.int x), (.int ii1)])) (fun _ k => XS.iloadN X18.here hx rfl (hb hby d22_53) rfl k) ?_
  by_cases hc54 : ii1 < x
  · refine Ds (B := T18.setTop (mkF m 62 #[lR a, lI 0, lI x, lI 2, lI 1, lI 1, lI 1] [(.ref a)])) (fun _ k => XS.icmpNo X18.here hx rfl (hb hby d22_54) rfl (tlt hc54).2.1 (XS.iload X18.here hx rfl (hb hby d22_57) rfl (XS.istore X18.here hx rfl (hb hby d22_59) rfl (l' := #[lR a, lI 0, lI x, lI 2, lI 1, lI 1, lI 1]) rfl (XS.aloadN X18.here hx rfl (hb hby d22_61) rfl rfl k)))) ?_
    have c23 := (Fld.other W13 (Fld.other W9 (Fld.other W5 (Fld.other W2 F_nextSiblings (Or.inl ne_a_up)) (Or.inl ne_a_ui)) (Or.inl ne_a_ud)) (Or.inl ne_a_uf))
    obtain ⟨T22, X22, e22, st22⟩ := getF X18 hx hZ hown (host := "") (Or.inl (hw _ mm128)) Via.refl e18 c23 (g := (mkF m 62 #[lR a, lI 0, lI x, lI 2, lI 1, lI 1, lI 1] [(.ref a)])) rfl rfl (hb hby d22_62)
    refine Ds (B := T22.setTop (mkF m 65 #[lR a, lI 0, lI x, lI 2, lI 1, lI 1, lI 1] [(.ref un)])) (fun _ k => st22 _ k) ?_
    refine Ds (B := T22.setTop (mkF m 67 #[lR a, lI 0, lI x, lI 2, lI 1, lI 1, lI 1] [(.int 1), (.ref un)])) (fun _ k => XS.iload X22.here hx rfl (hb hby d22_65) rfl k) ?_
    have c25 := ((((V_nextSiblings.other W2 (Ne.symm ne_up_un)).other W5 (Ne.symm ne_ui_un)).other W9 (Ne.symm ne_ud_un)).other W13 (Ne.symm ne_uf_un))
    obtain ⟨cl24, Ar24, q24, S24, M24, H24, G24⟩ := id c25
    have hin24 : ¬ ((1 : Int32) < 0 ∨ cl24.slots.size ≤ ((1 : Int32)).toNatClampNeg) := inb_of S24 ⟨by decide, by decide⟩
    have hat24 : cl24.slots[((1 : Int32)).toNatClampNeg]? = some (.int (-1)) := Has.at H24 hin24 rfl
    refine Ds (B := T22.setTop (mkF m 68 #[lR a, lI 0, lI x, lI 2, lI 1, lI 1, lI 1] [(.int (-1))])) (fun _ k => X22.iaload hx (j := (1 : Int32)) (v := (.int (-1))) (by rw [e22]; exact Ar24.1) (State.isArrayOf_alike hZ.alike Ar24.2.1) Ar24.2.2 hin24 hat24 (g := (mkF m 67 #[lR a, lI 0, lI x, lI 2, lI 1, lI 1, lI 1] [(.int 1), (.ref un)])) rfl rfl (hb hby d22_67) _ k) ?_
    refine Ds (B := T22.setTop (mkF m 74 #[lR a, lI 0, lI x, lI 2, lI 1, lI 1, lI (-1)] [(.ref a)])) (fun _ k => XS.istore X22.here hx rfl (hb hby d22_68) rfl (l' := #[lR a, lI 0, lI x, lI 2, lI 1, lI 1, lI (-1)]) rfl (XS.goto X22.here hx rfl (pc0 := 70) (pc' := 40) rfl (hb hby d22_70) (by decide) (by decide) (XS.iload X22.here hx rfl (hb hby d22_40) rfl (XS.iconst X22.here hx rfl (hb hby d22_42) (XS.icmpYes X22.here hx rfl (pc0 := 43) (pc' := 73) rfl (hb hby d22_43) rfl (teq (rfl : (-1 : Int32) = (-1 : Int32))).1 (by decide) (by decide) (XS.aloadN X22.here hx rfl (hb hby d22_73) rfl rfl k)))))) ?_
    obtain ⟨T26, X26, e26, st26⟩ := getF X22 hx hZ hown (host := "") (Or.inl (hw _ mm128)) Via.refl e22 c23 (g := (mkF m 74 #[lR a, lI 0, lI x, lI 2, lI 1, lI 1, lI (-1)] [(.ref a)])) rfl rfl (hb hby d22_74)
    refine Ds (B := T26.setTop (mkF m 77 #[lR a, lI 0, lI x, lI 2, lI 1, lI 1, lI (-1)] [(.ref un)])) (fun _ k => st26 _ k) ?_
    refine Ds (B := T26.setTop (mkF m 80 #[lR a, lI 0, lI x, lI 2, lI 1, lI 1, lI (-1)] [(.int (-1)), (.int 2), (.ref un)])) (fun _ k => XS.iloadN X26.here hx rfl (hb hby d22_77) rfl (XS.iload X26.here hx rfl (hb hby d22_78) rfl k)) ?_
    obtain ⟨cl27, Ar27, q27, S27, M27, H27, G27⟩ := id c25
    have hin27 : ¬ ((2 : Int32) < 0 ∨ cl27.slots.size ≤ ((2 : Int32)).toNatClampNeg) := inb_of S27 ⟨by decide, by decide⟩
    obtain ⟨T27, h27, X27, e27, W27, st27⟩ := stI X26 hx hZ e26 Ar27 (j := (2 : Int32)) hin27 (g := (mkF m 80 #[lR a, lI 0, lI x, lI 2, lI 1, lI 1, lI (-1)] [(.int (-1)), (.int 2), (.ref un)])) rfl rfl (hb hby d22_80)
    have V27 : Arv Z h27 un kun .int 5 [(.int nn0), (.int (-1)), (.int (-1)), (.int nn3), (.int nn4)] (.int 0) := Arv.set Ar27 q27 S27 M27 H27 G27 rfl W27 2 rfl (Nat.le_of_ble_eq_true rfl)
    have N27 := Fr.snoc X27 N13 g_un
    have Z27 : n0 ≤ h27.size := Nat.le_trans Z13 (Keep.of_wr W27).1
    have KK27 : Keep h0 h27 [up, ui, ud, uf, un] := (KK13).wr W27 (Or.inl (List.mem_of_getElem? (i := 4) rfl))
    refine Ds (B := T27.setTop (mkF m 81 #[lR a, lI 0, lI x, lI 2, lI 1, lI 1, lI (-1)] [])) (fun _ k => st27 _ k) ?_
    refine Ds (B := T27.setTop (mkF m 98 #[lR a, lI 0, lI x, lI 2, lI 1, lI 1, lI (-1)] [(.ref a)])) (fun _ k => XS.iload X27.here hx rfl (hb hby d22_81) rfl (XS.iconst X27.here hx rfl (hb hby d22_83) (XS.icmpYes X27.here hx rfl (pc0 := 84) (pc' := 97) rfl (hb hby d22_84) rfl (feq (by decide : ¬ ((1 : Int32) = (-1 : Int32)))).2 (by decide) (by decide) (XS.aloadN X27.here hx rfl (hb hby d22_97) rfl rfl k)))) ?_
    have c29 := (Fld.other W27 c23 (Or.inl ne_a_un))
    obtain ⟨T28, X28, e28, st28⟩ := getF X27 hx hZ hown (host := "") (Or.inl (hw _ mm128)) Via.refl e27 c29 (g := (mkF m 98 #[lR a, lI 0, lI x, lI 2, lI 1, lI 1, lI (-1)] [(.ref a)])) rfl rfl (hb hby d22_98)
    refine Ds (B := T28.setTop (mkF m 101 #[lR a, lI 0, lI x, lI 2, lI 1, lI 1, lI (-1)] [(.ref un)])) (fun _ k => st28 _ k) ?_
    refine Ds (B := T28.setTop (mkF m 104 #[lR a, lI 0, lI x, lI 2, lI 1, lI 1, lI (-1)] [(.int 2), (.int 1), (.ref un)])) (fun _ k => XS.iload X28.here hx rfl (hb hby d22_101) rfl (XS.iloadN X28.here hx rfl (hb hby d22_103) rfl k)) ?_
    obtain ⟨cl30, Ar30, q30, S30, M30, H30, G30⟩ := id V27
    have hin30 : ¬ ((1 : Int32) < 0 ∨ cl30.slots.size ≤ ((1 : Int32)).toNatClampNeg) := inb_of S30 ⟨by decide, by decide⟩
    obtain ⟨T30, h30, X30, e30, W30, st30⟩ := stI X28 hx hZ e28 Ar30 (j := (1 : Int32)) hin30 (g := (mkF m 104 #[lR a, lI 0, lI x, lI 2, lI 1, lI 1, lI (-1)] [(.int 2), (.int 1), (.ref un)])) rfl rfl (hb hby d22_104)
    have V30 : Arv Z h30 un kun .int 5 [(.int nn0), (.int 2), (.int (-1)), (.int nn3), (.int nn4)] (.int 0) := Arv.set Ar30 q30 S30 M30 H30 G30 rfl W30 1 rfl (Nat.le_of_ble_eq_true rfl)
    have N30 := Fr.snoc X30 N27 g_un
    have Z30 : n0 ≤ h30.size := Nat.le_trans Z27 (Keep.of_wr W30).1
    have KK30 : Keep h0 h30 [up, ui, ud, uf, un] := (KK27).wr W30 (Or.inl (List.mem_of_getElem? (i := 4) rfl))
    refine Ds (B := T30.setTop (mkF m 105 #[lR a, lI 0, lI x, lI 2, lI 1, lI 1, lI (-1)] [])) (fun _ k => st30 _ k) ?_
    obtain ⟨fs, hr, hrun, hended, hW, hsame⟩ := X30.leave (v := none) (hlocks := hlk) (fun _ => rfl)
    have c32 := (((((V2.other W5 ne_up_ui).other W9 ne_up_ud).other W13 ne_up_uf).other W27 ne_up_un).other W30 ne_up_un)
    have c33 := ((c21.other W27 ne_ui_un).other W30 ne_ui_un)
    have c34 := (((V9.other W13 ne_ud_uf).other W27 ne_ud_un).other W30 ne_ud_un)
    have c35 := ((V13.other W27 ne_uf_un).other W30 ne_uf_un)
    refine Done.fin (X30.returnOut hx Bd.returns (hb hby d22_105) hr) hrun hended ⟨_, _, rfl, ?_, ⟨_, rfl⟩, hW, hsame.mono (by decide) (by decide)⟩
    show QrmLK_3 Z a x up kup ui kui ud kud uf kuf un kun pp0 pp1 pp2 pp3 pp4 ii0 ii1 ii2 ii3 ii4 dd0 dd1 dd2 dd3 dd4 ff1 ff2 ff3 ff4 nn0 nn2 nn3 nn4 h0 n0 _ T30.heap _
    rw [e30]
    exact ⟨rfl, N30, KK30, fun gg0 => absurd hc54 gg0, fun gg0 => ⟨c32, c33, c34, c35, V30⟩⟩
  · refine Ds (B := T18.setTop (mkF m 74 #[lR a, lI 0, lI x, lI 2, lI 1, lI (-1), lI 1] [(.ref a)])) (fun _ k => XS.icmpYes X18.here hx rfl (pc0 := 54) (pc' := 73) rfl (hb hby d22_54) rfl (flt hc54).2.1 (by decide) (by decide) (XS.aloadN X18.here hx rfl (hb hby d22_73) rfl rfl k)) ?_
    have c37 := (Fld.other W13 (Fld.other W9 (Fld.other W5 (Fld.other W2 F_nextSiblings (Or.inl ne_a_up)) (Or.inl ne_a_ui)) (Or.inl ne_a_ud)) (Or.inl ne_a_uf))
    obtain ⟨T36, X36, e36, st36⟩ := getF X18 hx hZ hown (host := "") (Or.inl (hw _ mm128)) Via.refl e18 c37 (g := (mkF m 74 #[lR a, lI 0, lI x, lI 2, lI 1, lI (-1), lI 1] [(.ref a)])) rfl rfl (hb hby d22_74)
    refine Ds (B := T36.setTop (mkF m 77 #[lR a, lI 0, lI x, lI 2, lI 1, lI (-1), lI 1] [(.ref un)])) (fun _ k => st36 _ k) ?_
    refine Ds (B := T36.setTop (mkF m 80 #[lR a, lI 0, lI x, lI 2, lI 1, lI (-1), lI 1] [(.int 1), (.int 2), (.ref un)])) (fun _ k => XS.iloadN X36.here hx rfl (hb hby d22_77) rfl (XS.iload X36.here hx rfl (hb hby d22_78) rfl k)) ?_
    have c39 := ((((V_nextSiblings.other W2 (Ne.symm ne_up_un)).other W5 (Ne.symm ne_ui_un)).other W9 (Ne.symm ne_ud_un)).other W13 (Ne.symm ne_uf_un))
    obtain ⟨cl38, Ar38, q38, S38, M38, H38, G38⟩ := id c39
    have hin38 : ¬ ((2 : Int32) < 0 ∨ cl38.slots.size ≤ ((2 : Int32)).toNatClampNeg) := inb_of S38 ⟨by decide, by decide⟩
    obtain ⟨T38, h38, X38, e38, W38, st38⟩ := stI X36 hx hZ e36 Ar38 (j := (2 : Int32)) hin38 (g := (mkF m 80 #[lR a, lI 0, lI x, lI 2, lI 1, lI (-1), lI 1] [(.int 1), (.int 2), (.ref un)])) rfl rfl (hb hby d22_80)
    have V38 : Arv Z h38 un kun .int 5 [(.int nn0), (.int (-1)), (.int 1), (.int nn3), (.int nn4)] (.int 0) := Arv.set Ar38 q38 S38 M38 H38 G38 rfl W38 2 rfl (Nat.le_of_ble_eq_true rfl)
    have N38 := Fr.snoc X38 N13 g_un
    have Z38 : n0 ≤ h38.size := Nat.le_trans Z13 (Keep.of_wr W38).1
    have KK38 : Keep h0 h38 [up, ui, ud, uf, un] := (KK13).wr W38 (Or.inl (List.mem_of_getElem? (i := 4) rfl))
    refine Ds (B := T38.setTop (mkF m 81 #[lR a, lI 0, lI x, lI 2, lI 1, lI (-1), lI 1] [])) (fun _ k => st38 _ k) ?_
    refine Ds (B := T38.setTop (mkF m 88 #[lR a, lI 0, lI x, lI 2, lI 1, lI (-1), lI 1] [(.ref a)])) (fun _ k => XS.iload X38.here hx rfl (hb hby d22_81) rfl (XS.iconst X38.here hx rfl (hb hby d22_83) (XS.icmpNo X38.here hx rfl (hb hby d22_84) rfl (teq (rfl : (-1 : Int32) = (-1 : Int32))).2 (XS.aloadN X38.here hx rfl (hb hby d22_87) rfl rfl k)))) ?_
    have c41 := (Fld.other W38 c16 (Or.inl ne_a_un))
    obtain ⟨T40, X40, e40, st40⟩ := getF X38 hx hZ hown (host := "") (Or.inl (hw _ mm126)) Via.refl e38 c41 (g := (mkF m 88 #[lR a, lI 0, lI x, lI 2, lI 1, lI (-1), lI 1] [(.ref a)])) rfl rfl (hb hby d22_88)
    refine Ds (B := T40.setTop (mkF m 91 #[lR a, lI 0, lI x, lI 2, lI 1, lI (-1), lI 1] [(.ref uf)])) (fun _ k => st40 _ k) ?_
    refine Ds (B := T40.setTop (mkF m 93 #[lR a, lI 0, lI x, lI 2, lI 1, lI (-1), lI 1] [(.int 2), (.int 0), (.ref uf)])) (fun _ k => XS.iloadN X40.here hx rfl (hb hby d22_91) rfl (XS.iloadN X40.here hx rfl (hb hby d22_92) rfl k)) ?_
    have c43 := (V13.other W38 ne_uf_un)
    obtain ⟨cl42, Ar42, q42, S42, M42, H42, G42⟩ := id c43
    have hin42 : ¬ ((0 : Int32) < 0 ∨ cl42.slots.size ≤ ((0 : Int32)).toNatClampNeg) := inb_of S42 ⟨by decide, by decide⟩
    obtain ⟨T42, h42, X42, e42, W42, st42⟩ := stI X40 hx hZ e40 Ar42 (j := (0 : Int32)) hin42 (g := (mkF m 93 #[lR a, lI 0, lI x, lI 2, lI 1, lI (-1), lI 1] [(.int 2), (.int 0), (.ref uf)])) rfl rfl (hb hby d22_93)
    have V42 : Arv Z h42 uf kuf .int 5 [(.int 2), (.int ff1), (.int (-1)), (.int ff3), (.int ff4)] (.int 0) := Arv.set Ar42 q42 S42 M42 H42 G42 rfl W42 0 rfl (Nat.le_of_ble_eq_true rfl)
    have N42 := Fr.snoc X42 N38 g_uf
    have Z42 : n0 ≤ h42.size := Nat.le_trans Z38 (Keep.of_wr W42).1
    have KK42 : Keep h0 h42 [up, ui, ud, uf, un] := (KK38).wr W42 (Or.inl (List.mem_of_getElem? (i := 3) rfl))
    refine Ds (B := T42.setTop (mkF m 94 #[lR a, lI 0, lI x, lI 2, lI 1, lI (-1), lI 1] [])) (fun _ k => st42 _ k) ?_
    refine Ds (B := T42.setTop (mkF m 105 #[lR a, lI 0, lI x, lI 2, lI 1, lI (-1), lI 1] [])) (fun _ k => XS.goto X42.here hx rfl (pc0 := 94) (pc' := 105) rfl (hb hby d22_94) (by decide) (by decide) k) ?_
    obtain ⟨fs, hr, hrun, hended, hW, hsame⟩ := X42.leave (v := none) (hlocks := hlk) (fun _ => rfl)
    have c45 := (((((V2.other W5 ne_up_ui).other W9 ne_up_ud).other W13 ne_up_uf).other W38 ne_up_un).other W42 ne_up_uf)
    have c46 := ((c21.other W38 ne_ui_un).other W42 ne_ui_uf)
    have c47 := (((V9.other W13 ne_ud_uf).other W38 ne_ud_un).other W42 ne_ud_uf)
    have c48 := (V38.other W42 (Ne.symm ne_uf_un))
    refine Done.fin (X42.returnOut hx Bd.returns (hb hby d22_105) hr) hrun hended ⟨_, _, rfl, ?_, ⟨_, rfl⟩, hW, hsame.mono (by decide) (by decide)⟩
    show QrmLK_3 Z a x up kup ui kui ud kud uf kuf un kun pp0 pp1 pp2 pp3 pp4 ii0 ii1 ii2 ii3 ii4 dd0 dd1 dd2 dd3 dd4 ff1 ff2 ff3 ff4 nn0 nn2 nn3 nn4 h0 n0 _ T42.heap _
    rw [e42]
    exact ⟨rfl, N42, KK42, fun gg0 => ⟨c45, c46, c47, V42, c48⟩, fun gg0 => absurd gg0 hc54⟩
theorem ef_rmLK_4 (m : MethodId) (a : Addr) (x : Int32) : entryFrame m #[(.ref a), (.int 0), (.int x), (.int 3), (.int 1)] 7 = mkF m 0 #[lR a, lI 0, lI x, lI 3, lI 1, lU, lU] [] := by first | (simp [entryFrame, mkF, argsToLocals, Value.category]; done) | rfl
def QrmLK_4 (Z : State) (a : Addr) (x : Int32) (up : Addr) (kup : ClassId) (ui : Addr) (kui : ClassId) (ud : Addr) (kud : ClassId) (uf : Addr) (kuf : ClassId) (un : Addr) (kun : ClassId) (pp0 : Int32) (pp1 : Int32) (pp2 : Int32) (pp3 : Int32) (pp4 : Int32) (ii0 : Int32) (ii1 : Int32) (ii2 : Int32) (ii3 : Int32) (ii4 : Int32) (dd0 : Int32) (dd1 : Int32) (dd2 : Int32) (dd3 : Int32) (dd4 : Int32) (ff1 : Int32) (ff2 : Int32) (ff3 : Int32) (ff4 : Int32) (nn0 : Int32) (nn3 : Int32) (nn4 : Int32) (h0 : Heap) (n0 : Nat) (v : Option Value) (h : Heap) (L : List Loc) : Prop := v = none ∧ Fr n0 L ∧ Keep h0 h [up, ui, ud, uf, un] ∧ (¬ ii1 < x → (Arv Z h up kup .int 5 [(.int pp0), (.int pp1), (.int pp2), (.int 0), (.int pp4)] (.int 0) ∧ Arv Z h ui kui .int 5 [(.int ii0), (.int ii1), (.int ii2), (.int x), (.int ii4)] (.int 0) ∧ Arv Z h ud kud .int 5 [(.int dd0), (.int dd1), (.int dd2), (.int 1), (.int dd4)] (.int 0) ∧ Arv Z h uf kuf .int 5 [(.int 3), (.int ff1), (.int ff2), (.int (-1)), (.int ff4)] (.int 0) ∧ Arv Z h un kun .int 5 [(.int nn0), (.int 2), (.int (-1)), (.int 1), (.int nn4)] (.int 0))) ∧ (ii1 < x → ¬ ii2 < x → (Arv Z h up kup .int 5 [(.int pp0), (.int pp1), (.int pp2), (.int 0), (.int pp4)] (.int 0) ∧ Arv Z h ui kui .int 5 [(.int ii0), (.int ii1), (.int ii2), (.int x), (.int ii4)] (.int 0) ∧ Arv Z h ud kud .int 5 [(.int dd0), (.int dd1), (.int dd2), (.int 1), (.int dd4)] (.int 0) ∧ Arv Z h uf kuf .int 5 [(.int 1), (.int ff1), (.int ff2), (.int (-1)), (.int ff4)] (.int 0) ∧ Arv Z h un kun .int 5 [(.int nn0), (.int 3), (.int (-1)), (.int 2), (.int nn4)] (.int 0))) ∧ (ii1 < x → ii2 < x → (Arv Z h up kup .int 5 [(.int pp0), (.int pp1), (.int pp2), (.int 0), (.int pp4)] (.int 0) ∧ Arv Z h ui kui .int 5 [(.int ii0), (.int ii1), (.int ii2), (.int x), (.int ii4)] (.int 0) ∧ Arv Z h ud kud .int 5 [(.int dd0), (.int dd1), (.int dd2), (.int 1), (.int dd4)] (.int 0) ∧ Arv Z h uf kuf .int 5 [(.int 1), (.int ff1), (.int ff2), (.int (-1)), (.int ff4)] (.int 0) ∧ Arv Z h un kun .int 5 [(.int nn0), (.int 2), (.int 3), (.int (-1)), (.int nn4)] (.int 0)))
def PrmLK_4 (s : State) (Z : State) (a : Addr) (x : Int32) (up : Addr) (kup : ClassId) (ui : Addr) (kui : ClassId) (ud : Addr) (kud : ClassId) (uf : Addr) (kuf : ClassId) (un : Addr) (kun : ClassId) (pp0 : Int32) (pp1 : Int32) (pp2 : Int32) (pp3 : Int32) (pp4 : Int32) (ii0 : Int32) (ii1 : Int32) (ii2 : Int32) (ii3 : Int32) (ii4 : Int32) (dd0 : Int32) (dd1 : Int32) (dd2 : Int32) (dd3 : Int32) (dd4 : Int32) (ff1 : Int32) (ff2 : Int32) (ff3 : Int32) (ff4 : Int32) (nn0 : Int32) (nn3 : Int32) (nn4 : Int32) (h0 : Heap) (n0 : Nat) : State → Outcome → Prop := fun U' o => ∃ v L, o = .returned v ∧ QrmLK_4 Z a x up kup ui kui ud kud uf kuf un kun pp0 pp1 pp2 pp3 pp4 ii0 ii1 ii2 ii3 ii4 dd0 dd1 dd2 dd3 dd4 ff1 ff2 ff3 ff4 nn0 nn3 nn4 h0 n0 v U'.heap L ∧ FrameEnd s o U' L ({ frames := 0, cells := 0, slots := 0, locals := 0 } : Room).cells ({ frames := 0, cells := 0, slots := 0, locals := 0 } : Room).slots
set_option maxRecDepth 65536 in
set_option maxHeartbeats 40000000 in
theorem rmLK_4 (l : Launch) (Z : State) (a0 : Array Value) (hw : ∀ d ∈ tables_1, d.before a0 Z = true) (ws : List Jvm.Cond) (a : Addr) (x : Int32) (up : Addr) (kup : ClassId) (ui : Addr) (kui : ClassId) (ud : Addr) (kud : ClassId) (uf : Addr) (kuf : ClassId) (un : Addr) (kun : ClassId) (pp0 : Int32) (pp1 : Int32) (pp2 : Int32) (pp3 : Int32) (pp4 : Int32) (ii0 : Int32) (ii1 : Int32) (ii2 : Int32) (ii3 : Int32) (ii4 : Int32) (dd0 : Int32) (dd1 : Int32) (dd2 : Int32) (dd3 : Int32) (dd4 : Int32) (ff1 : Int32) (ff2 : Int32) (ff3 : Int32) (ff4 : Int32) (nn0 : Int32) (nn3 : Int32) (nn4 : Int32) (h0 : Heap) (n0 : Nat) (Z0 : n0 ≤ h0.size) (F_parents : Fld Z h0 a "com/example/percurso/percurso/suite/PrefixTree" "parents" "[I" (.ref up)) (F_inputs : Fld Z h0 a "com/example/percurso/percurso/suite/PrefixTree" "inputs" "[I" (.ref ui)) (F_depths : Fld Z h0 a "com/example/percurso/percurso/suite/PrefixTree" "depths" "[I" (.ref ud)) (F_firstChildren : Fld Z h0 a "com/example/percurso/percurso/suite/PrefixTree" "firstChildren" "[I" (.ref uf)) (F_nextSiblings : Fld Z h0 a "com/example/percurso/percurso/suite/PrefixTree" "nextSiblings" "[I" (.ref un)) (V_parents : Arv Z h0 up kup .int 5 [(.int pp0), (.int pp1), (.int pp2), (.int pp3), (.int pp4)] (.int 0)) (V_inputs : Arv Z h0 ui kui .int 5 [(.int ii0), (.int ii1), (.int ii2), (.int ii3), (.int ii4)] (.int 0)) (V_depths : Arv Z h0 ud kud .int 5 [(.int dd0), (.int dd1), (.int dd2), (.int dd3), (.int dd4)] (.int 0)) (V_firstChildren : Arv Z h0 uf kuf .int 5 [(.int 1), (.int ff1), (.int ff2), (.int ff3), (.int ff4)] (.int 0)) (V_nextSiblings : Arv Z h0 un kun .int 5 [(.int nn0), (.int 2), (.int (-1)), (.int nn3), (.int nn4)] (.int 0)) (g_up : n0 ≤ up) (g_ui : n0 ≤ ui) (g_ud : n0 ≤ ud) (g_uf : n0 ≤ uf) (g_un : n0 ≤ un) (ne_up_ui : up ≠ ui) (ne_up_ud : up ≠ ud) (ne_up_uf : up ≠ uf) (ne_up_un : up ≠ un) (ne_ui_ud : ui ≠ ud) (ne_ui_uf : ui ≠ uf) (ne_ui_un : ui ≠ un) (ne_ud_uf : ud ≠ uf) (ne_ud_un : ud ≠ un) (ne_uf_un : uf ≠ un) (ne_a_up : a ≠ up) (ne_a_ui : a ≠ ui) (ne_a_ud : a ≠ ud) (ne_a_uf : a ≠ uf) (ne_a_un : a ≠ un) :
    MetFree l (⟨"com/example/percurso/percurso/suite/PrefixTree", "link", "(IIII)V"⟩ : MethodName) (head1 (Jvm.Cond.code (⟨"com/example/percurso/percurso/suite/PrefixTree", "link", "(IIII)V"⟩ : MethodName) prog_191_method_2_code 7 none :: ws) ({ frames := 0, cells := 0, slots := 0, locals := 0 } : Room)) (fun aa U => aa = #[(.ref a), (.int 0), (.int x), (.int 3), (.int 1)] ∧ Z.Warmed39 U.vm ∧ U.heap = h0) (fun _ _ _ _ _ => True) (fun _ U o U' => ∃ v L, o = .returned v ∧ QrmLK_4 Z a x up kup ui kui ud kud uf kuf un kun pp0 pp1 pp2 pp3 pp4 ii0 ii1 ii2 ii3 ii4 dd0 dd1 dd2 dd3 dd4 ff1 ff2 ff3 ff4 nn0 nn3 nn4 h0 n0 v U'.heap L ∧ FrameEnd U o U' L ({ frames := 0, cells := 0, slots := 0, locals := 0 } : Room).cells ({ frames := 0, cells := 0, slots := 0, locals := 0 } : Room).slots) := by
  refine MetFree.of_bodySF (plainFor_of_name pn_6) hisR ?_
  intro p e s m args below meth c s₁ Bd hml0 hP hK
  obtain ⟨rfl, hZ, hh⟩ := hP
  have hx := Bd.exec
  have hlk : meth.locks = false := by first | exact BodyLoose.notSynchronized Bd | exact Body.notSynchronized Bd
  have hby := Bd.bytes
  have hml : c.maxLocals = 7 := hml0
  have hown : s.vm.findClass "com/example/percurso/percurso/suite/PrefixTree" = some m.cls := findClass_of_methodNamed Bd.named
  have hnm := (name_of_methodNamed Bd.named Bd.method).1
  have X0 : Stand p l e ({ frames := 0, cells := 0, slots := 0, locals := 0 } : Room) s m #[(.ref a), (.int 0), (.int x), (.int 3), (.int 1)] below meth c s₁ [] 0 0 := Stand.of_body Bd
  have e0 : s₁.heap = h0 := by rw [← hh, Bd.state]; rfl
  have N0 := Fr.nil n0
  show Done p e below (PrmLK_4 s Z a x up kup ui kui ud kud uf kuf un kun pp0 pp1 pp2 pp3 pp4 ii0 ii1 ii2 ii3 ii4 dd0 dd1 dd2 dd3 dd4 ff1 ff2 ff3 ff4 nn0 nn3 nn4 h0 n0) (s₁.setTop (entryFrame m #[(.ref a), (.int 0), (.int x), (.int 3), (.int 1)] 7))
  refine Ds (B := s₁.setTop (mkF m 0 #[lR a, lI 0, lI x, lI 3, lI 1, lU, lU] [])) (fun _ k => castTop (ef_rmLK_4 m a x) k) ?_
  refine Ds (B := s₁.setTop (mkF m 1 #[lR a, lI 0, lI x, lI 3, lI 1, lU, lU] [(.ref a)])) (fun _ k => XS.aloadN X0.here hx rfl (hb hby d22_0) rfl rfl k) ?_
  obtain ⟨T1, X1, e1, st1⟩ := getF X0 hx hZ hown (host := "") (Or.inl (hw _ mm120)) Via.refl e0 F_parents (g := (mkF m 1 #[lR a, lI 0, lI x, lI 3, lI 1, lU, lU] [(.ref a)])) rfl rfl (hb hby d22_1)
  refine Ds (B := T1.setTop (mkF m 4 #[lR a, lI 0, lI x, lI 3, lI 1, lU, lU] [(.ref up)])) (fun _ k => st1 _ k) ?_
  refine Ds (B := T1.setTop (mkF m 6 #[lR a, lI 0, lI x, lI 3, lI 1, lU, lU] [(.int 0), (.int 3), (.ref up)])) (fun _ k => XS.iloadN X1.here hx rfl (hb hby d22_4) rfl (XS.iloadN X1.here hx rfl (hb hby d22_5) rfl k)) ?_
  obtain ⟨cl2, Ar2, q2, S2, M2, H2, G2⟩ := id V_parents
  have hin2 : ¬ ((3 : Int32) < 0 ∨ cl2.slots.size ≤ ((3 : Int32)).toNatClampNeg) := inb_of S2 ⟨by decide, by decide⟩
  obtain ⟨T2, h2, X2, e2, W2, st2⟩ := stI X1 hx hZ e1 Ar2 (j := (3 : Int32)) hin2 (g := (mkF m 6 #[lR a, lI 0, lI x, lI 3, lI 1, lU, lU] [(.int 0), (.int 3), (.ref up)])) rfl rfl (hb hby d22_6)
  have V2 : Arv Z h2 up kup .int 5 [(.int pp0), (.int pp1), (.int pp2), (.int 0), (.int pp4)] (.int 0) := Arv.set Ar2 q2 S2 M2 H2 G2 rfl W2 3 rfl (Nat.le_of_ble_eq_true rfl)
  have N2 := Fr.snoc X2 N0 g_up
  have Z2 : n0 ≤ h2.size := Nat.le_trans Z0 (Keep.of_wr W2).1
  have KK2 : Keep h0 h2 [up, ui, ud, uf, un] := ((Keep.refl h0 [up, ui, ud, uf, un])).wr W2 (Or.inl (List.mem_of_getElem? (i := 0) rfl))
  refine Ds (B := T2.setTop (mkF m 7 #[lR a, lI 0, lI x, lI 3, lI 1, lU, lU] [])) (fun _ k => st2 _ k) ?_
  refine Ds (B := T2.setTop (mkF m 8 #[lR a, lI 0, lI x, lI 3, lI 1, lU, lU] [(.ref a)])) (fun _ k => XS.aloadN X2.here hx rfl (hb hby d22_7) rfl rfl k) ?_
  have c4 := (Fld.other W2 F_inputs (Or.inl ne_a_up))
  obtain ⟨T3, X3, e3, st3⟩ := getF X2 hx hZ hown (host := "") (Or.inl (hw _ mm122)) Via.refl e2 c4 (g := (mkF m 8 #[lR a, lI 0, lI x, lI 3, lI 1, lU, lU] [(.ref a)])) rfl rfl (hb hby d22_8)
  refine Ds (B := T3.setTop (mkF m 11 #[lR a, lI 0, lI x, lI 3, lI 1, lU, lU] [(.ref ui)])) (fun _ k => st3 _ k) ?_
  refine Ds (B := T3.setTop (mkF m 13 #[lR a, lI 0, lI x, lI 3, lI 1, lU, lU] [(.int x), (.int 3), (.ref ui)])) (fun _ k => XS.iloadN X3.here hx rfl (hb hby d22_11) rfl (XS.iloadN X3.here hx rfl (hb hby d22_12) rfl k)) ?_
  have c6 := (V_inputs.other W2 (Ne.symm ne_up_ui))
  obtain ⟨cl5, Ar5, q5, S5, M5, H5, G5⟩ := id c6
  have hin5 : ¬ ((3 : Int32) < 0 ∨ cl5.slots.size ≤ ((3 : Int32)).toNatClampNeg) := inb_of S5 ⟨by decide, by decide⟩
  obtain ⟨T5, h5, X5, e5, W5, st5⟩ := stI X3 hx hZ e3 Ar5 (j := (3 : Int32)) hin5 (g := (mkF m 13 #[lR a, lI 0, lI x, lI 3, lI 1, lU, lU] [(.int x), (.int 3), (.ref ui)])) rfl rfl (hb hby d22_13)
  have V5 : Arv Z h5 ui kui .int 5 [(.int ii0), (.int ii1), (.int ii2), (.int x), (.int ii4)] (.int 0) := Arv.set Ar5 q5 S5 M5 H5 G5 rfl W5 3 rfl (Nat.le_of_ble_eq_true rfl)
  have N5 := Fr.snoc X5 N2 g_ui
  have Z5 : n0 ≤ h5.size := Nat.le_trans Z2 (Keep.of_wr W5).1
  have KK5 : Keep h0 h5 [up, ui, ud, uf, un] := (KK2).wr W5 (Or.inl (List.mem_of_getElem? (i := 1) rfl))
  refine Ds (B := T5.setTop (mkF m 14 #[lR a, lI 0, lI x, lI 3, lI 1, lU, lU] [])) (fun _ k => st5 _ k) ?_
  refine Ds (B := T5.setTop (mkF m 15 #[lR a, lI 0, lI x, lI 3, lI 1, lU, lU] [(.ref a)])) (fun _ k => XS.aloadN X5.here hx rfl (hb hby d22_14) rfl rfl k) ?_
  have c8 := (Fld.other W5 (Fld.other W2 F_depths (Or.inl ne_a_up)) (Or.inl ne_a_ui))
  obtain ⟨T7, X7, e7, st7⟩ := getF X5 hx hZ hown (host := "") (Or.inl (hw _ mm124)) Via.refl e5 c8 (g := (mkF m 15 #[lR a, lI 0, lI x, lI 3, lI 1, lU, lU] [(.ref a)])) rfl rfl (hb hby d22_15)
  refine Ds (B := T7.setTop (mkF m 18 #[lR a, lI 0, lI x, lI 3, lI 1, lU, lU] [(.ref ud)])) (fun _ k => st7 _ k) ?_
  refine Ds (B := T7.setTop (mkF m 21 #[lR a, lI 0, lI x, lI 3, lI 1, lU, lU] [(.int 1), (.int 3), (.ref ud)])) (fun _ k => XS.iloadN X7.here hx rfl (hb hby d22_18) rfl (XS.iload X7.here hx rfl (hb hby d22_19) rfl k)) ?_
  have c10 := ((V_depths.other W2 (Ne.symm ne_up_ud)).other W5 (Ne.symm ne_ui_ud))
  obtain ⟨cl9, Ar9, q9, S9, M9, H9, G9⟩ := id c10
  have hin9 : ¬ ((3 : Int32) < 0 ∨ cl9.slots.size ≤ ((3 : Int32)).toNatClampNeg) := inb_of S9 ⟨by decide, by decide⟩
  obtain ⟨T9, h9, X9, e9, W9, st9⟩ := stI X7 hx hZ e7 Ar9 (j := (3 : Int32)) hin9 (g := (mkF m 21 #[lR a, lI 0, lI x, lI 3, lI 1, lU, lU] [(.int 1), (.int 3), (.ref ud)])) rfl rfl (hb hby d22_21)
  have V9 : Arv Z h9 ud kud .int 5 [(.int dd0), (.int dd1), (.int dd2), (.int 1), (.int dd4)] (.int 0) := Arv.set Ar9 q9 S9 M9 H9 G9 rfl W9 3 rfl (Nat.le_of_ble_eq_true rfl)
  have N9 := Fr.snoc X9 N5 g_ud
  have Z9 : n0 ≤ h9.size := Nat.le_trans Z5 (Keep.of_wr W9).1
  have KK9 : Keep h0 h9 [up, ui, ud, uf, un] := (KK5).wr W9 (Or.inl (List.mem_of_getElem? (i := 2) rfl))
  refine Ds (B := T9.setTop (mkF m 22 #[lR a, lI 0, lI x, lI 3, lI 1, lU, lU] [])) (fun _ k => st9 _ k) ?_
  refine Ds (B := T9.setTop (mkF m 23 #[lR a, lI 0, lI x, lI 3, lI 1, lU, lU] [(.ref a)])) (fun _ k => XS.aloadN X9.here hx rfl (hb hby d22_22) rfl rfl k) ?_
  have c12 := (Fld.other W9 (Fld.other W5 (Fld.other W2 F_firstChildren (Or.inl ne_a_up)) (Or.inl ne_a_ui)) (Or.inl ne_a_ud))
  obtain ⟨T11, X11, e11, st11⟩ := getF X9 hx hZ hown (host := "") (Or.inl (hw _ mm126)) Via.refl e9 c12 (g := (mkF m 23 #[lR a, lI 0, lI x, lI 3, lI 1, lU, lU] [(.ref a)])) rfl rfl (hb hby d22_23)
  refine Ds (B := T11.setTop (mkF m 26 #[lR a, lI 0, lI x, lI 3, lI 1, lU, lU] [(.ref uf)])) (fun _ k => st11 _ k) ?_
  refine Ds (B := T11.setTop (mkF m 28 #[lR a, lI 0, lI x, lI 3, lI 1, lU, lU] [(.int (-1)), (.int 3), (.ref uf)])) (fun _ k => XS.iloadN X11.here hx rfl (hb hby d22_26) rfl (XS.iconst X11.here hx rfl (hb hby d22_27) k)) ?_
  have c14 := (((V_firstChildren.other W2 (Ne.symm ne_up_uf)).other W5 (Ne.symm ne_ui_uf)).other W9 (Ne.symm ne_ud_uf))
  obtain ⟨cl13, Ar13, q13, S13, M13, H13, G13⟩ := id c14
  have hin13 : ¬ ((3 : Int32) < 0 ∨ cl13.slots.size ≤ ((3 : Int32)).toNatClampNeg) := inb_of S13 ⟨by decide, by decide⟩
  obtain ⟨T13, h13, X13, e13, W13, st13⟩ := stI X11 hx hZ e11 Ar13 (j := (3 : Int32)) hin13 (g := (mkF m 28 #[lR a, lI 0, lI x, lI 3, lI 1, lU, lU] [(.int (-1)), (.int 3), (.ref uf)])) rfl rfl (hb hby d22_28)
  have V13 : Arv Z h13 uf kuf .int 5 [(.int 1), (.int ff1), (.int ff2), (.int (-1)), (.int ff4)] (.int 0) := Arv.set Ar13 q13 S13 M13 H13 G13 rfl W13 3 rfl (Nat.le_of_ble_eq_true rfl)
  have N13 := Fr.snoc X13 N9 g_uf
  have Z13 : n0 ≤ h13.size := Nat.le_trans Z9 (Keep.of_wr W13).1
  have KK13 : Keep h0 h13 [up, ui, ud, uf, un] := (KK9).wr W13 (Or.inl (List.mem_of_getElem? (i := 3) rfl))
  refine Ds (B := T13.setTop (mkF m 29 #[lR a, lI 0, lI x, lI 3, lI 1, lU, lU] [])) (fun _ k => st13 _ k) ?_
  refine Ds (B := T13.setTop (mkF m 33 #[lR a, lI 0, lI x, lI 3, lI 1, lI (-1), lU] [(.ref a)])) (fun _ k => XS.iconst X13.here hx rfl (hb hby d22_29) (XS.istore X13.here hx rfl (hb hby d22_30) rfl (l' := #[lR a, lI 0, lI x, lI 3, lI 1, lI (-1), lU]) rfl (XS.aloadN X13.here hx rfl (hb hby d22_32) rfl rfl k))) ?_
  have c16 := (Fld.other W13 c12 (Or.inl ne_a_uf))
  obtain ⟨T15, X15, e15, st15⟩ := getF X13 hx hZ hown (host := "") (Or.inl (hw _ mm126)) Via.refl e13 c16 (g := (mkF m 33 #[lR a, lI 0, lI x, lI 3, lI 1, lI (-1), lU] [(.ref a)])) rfl rfl (hb hby d22_33)
  refine Ds (B := T15.setTop (mkF m 36 #[lR a, lI 0, lI x, lI 3, lI 1, lI (-1), lU] [(.ref uf)])) (fun _ k => st15 _ k) ?_
  refine Ds (B := T15.setTop (mkF m 37 #[lR a, lI 0, lI x, lI 3, lI 1, lI (-1), lU] [(.int 0), (.ref uf)])) (fun _ k => XS.iloadN X15.here hx rfl (hb hby d22_36) rfl k) ?_
  obtain ⟨cl17, Ar17, q17, S17, M17, H17, G17⟩ := id V13
  have hin17 : ¬ ((0 : Int32) < 0 ∨ cl17.slots.size ≤ ((0 : Int32)).toNatClampNeg) := inb_of S17 ⟨by decide, by decide⟩
  have hat17 : cl17.slots[((0 : Int32)).toNatClampNeg]? = some (.int 1) := Has.at H17 hin17 rfl
  refine Ds (B := T15.setTop (mkF m 38 #[lR a, lI 0, lI x, lI 3, lI 1, lI (-1), lU] [(.int 1)])) (fun _ k => X15.iaload hx (j := (0 : Int32)) (v := (.int 1)) (by rw [e15]; exact Ar17.1) (State.isArrayOf_alike hZ.alike Ar17.2.1) Ar17.2.2 hin17 hat17 (g := (mkF m 37 #[lR a, lI 0, lI x, lI 3, lI 1, lI (-1), lU] [(.int 0), (.ref uf)])) rfl rfl (hb hby d22_37) _ k) ?_
  refine Ds (B := T15.setTop (mkF m 47 #[lR a, lI 0, lI x, lI 3, lI 1, lI (-1), lI 1] [(.ref a)])) (fun _ k => XS.istore X15.here hx rfl (hb hby d22_38) rfl (l' := #[lR a, lI 0, lI x, lI 3, lI 1, lI (-1), lI 1]) rfl (XS.iload X15.here hx rfl (hb hby d22_40) rfl (XS.iconst X15.here hx rfl (hb hby d22_42) (XS.icmpNo X15.here hx rfl (hb hby d22_43) rfl (feq (by decide : ¬ ((1 : Int32) = (-1 : Int32)))).1 (XS.aloadN X15.here hx rfl (hb hby d22_46) rfl rfl k))))) ?_
  have c19 := (Fld.other W13 (Fld.other W9 (Fld.other W5 c4 (Or.inl ne_a_ui)) (Or.inl ne_a_ud)) (Or.inl ne_a_uf))
  obtain ⟨T18, X18, e18, st18⟩ := getF X15 hx hZ hown (host := "") (Or.inl (hw _ mm122)) Via.refl e15 c19 (g := (mkF m 47 #[lR a, lI 0, lI x, lI 3, lI 1, lI (-1), lI 1] [(.ref a)])) rfl rfl (hb hby d22_47)
  refine Ds (B := T18.setTop (mkF m 50 #[lR a, lI 0, lI x, lI 3, lI 1, lI (-1), lI 1] [(.ref ui)])) (fun _ k => st18 _ k) ?_
  refine Ds (B := T18.setTop (mkF m 52 #[lR a, lI 0, lI x, lI 3, lI 1, lI (-1), lI 1] [(.int 1), (.ref ui)])) (fun _ k => XS.iload X18.here hx rfl (hb hby d22_50) rfl k) ?_
  have c21 := ((V5.other W9 ne_ui_ud).other W13 ne_ui_uf)
  obtain ⟨cl20, Ar20, q20, S20, M20, H20, G20⟩ := id c21
  have hin20 : ¬ ((1 : Int32) < 0 ∨ cl20.slots.size ≤ ((1 : Int32)).toNatClampNeg) := inb_of S20 ⟨by decide, by decide⟩
  have hat20 : cl20.slots[((1 : Int32)).toNatClampNeg]? = some (.int ii1) := Has.at H20 hin20 rfl
  refine Ds (B := T18.setTop (mkF m 53 #[lR a, lI 0, lI x, lI 3, lI 1, lI (-1), lI 1] [(.int ii1)])) (fun _ k => X18.iaload hx (j := (1 : Int32)) (v := (.int ii1)) (by rw [e18]; exact Ar20.1) (State.isArrayOf_alike hZ.alike Ar20.2.1) Ar20.2.2 hin20 hat20 (g := (mkF m 52 #[lR a, lI 0, lI x, lI 3, lI 1, lI (-1), lI 1] [(.int 1), (.ref ui)])) rfl rfl (hb hby d22_52) _ k) ?_
  refine Ds (B := T18.setTop (mkF m 54 #[lR a, lI 0, lI x, lI 3, lI 1, lI (-1), lI 1] [(.int x), (.int ii1)])) (fun _ k => XS.iloadN X18.here hx rfl (hb hby d22_53) rfl k) ?_
  by_cases hc54 : ii1 < x
  · refine Ds (B := T18.setTop (mkF m 62 #[lR a, lI 0, lI x, lI 3, lI 1, lI 1, lI 1] [(.ref a)])) (fun _ k => XS.icmpNo X18.here hx rfl (hb hby d22_54) rfl (tlt hc54).2.1 (XS.iload X18.here hx rfl (hb hby d22_57) rfl (XS.istore X18.here hx rfl (hb hby d22_59) rfl (l' := #[lR a, lI 0, lI x, lI 3, lI 1, lI 1, lI 1]) rfl (XS.aloadN X18.here hx rfl (hb hby d22_61) rfl rfl k)))) ?_
    have c23 := (Fld.other W13 (Fld.other W9 (Fld.other W5 (Fld.other W2 F_nextSiblings (Or.inl ne_a_up)) (Or.inl ne_a_ui)) (Or.inl ne_a_ud)) (Or.inl ne_a_uf))
    obtain ⟨T22, X22, e22, st22⟩ := getF X18 hx hZ hown (host := "") (Or.inl (hw _ mm128)) Via.refl e18 c23 (g := (mkF m 62 #[lR a, lI 0, lI x, lI 3, lI 1, lI 1, lI 1] [(.ref a)])) rfl rfl (hb hby d22_62)
    refine Ds (B := T22.setTop (mkF m 65 #[lR a, lI 0, lI x, lI 3, lI 1, lI 1, lI 1] [(.ref un)])) (fun _ k => st22 _ k) ?_
    refine Ds (B := T22.setTop (mkF m 67 #[lR a, lI 0, lI x, lI 3, lI 1, lI 1, lI 1] [(.int 1), (.ref un)])) (fun _ k => XS.iload X22.here hx rfl (hb hby d22_65) rfl k) ?_
    have c25 := ((((V_nextSiblings.other W2 (Ne.symm ne_up_un)).other W5 (Ne.symm ne_ui_un)).other W9 (Ne.symm ne_ud_un)).other W13 (Ne.symm ne_uf_un))
    obtain ⟨cl24, Ar24, q24, S24, M24, H24, G24⟩ := id c25
    have hin24 : ¬ ((1 : Int32) < 0 ∨ cl24.slots.size ≤ ((1 : Int32)).toNatClampNeg) := inb_of S24 ⟨by decide, by decide⟩
    have hat24 : cl24.slots[((1 : Int32)).toNatClampNeg]? = some (.int 2) := Has.at H24 hin24 rfl
    refine Ds (B := T22.setTop (mkF m 68 #[lR a, lI 0, lI x, lI 3, lI 1, lI 1, lI 1] [(.int 2)])) (fun _ k => X22.iaload hx (j := (1 : Int32)) (v := (.int 2)) (by rw [e22]; exact Ar24.1) (State.isArrayOf_alike hZ.alike Ar24.2.1) Ar24.2.2 hin24 hat24 (g := (mkF m 67 #[lR a, lI 0, lI x, lI 3, lI 1, lI 1, lI 1] [(.int 1), (.ref un)])) rfl rfl (hb hby d22_67) _ k) ?_
    refine Ds (B := T22.setTop (mkF m 47 #[lR a, lI 0, lI x, lI 3, lI 1, lI 1, lI 2] [(.ref a)])) (fun _ k => XS.istore X22.here hx rfl (hb hby d22_68) rfl (l' := #[lR a, lI 0, lI x, lI 3, lI 1, lI 1, lI 2]) rfl (XS.goto X22.here hx rfl (pc0 := 70) (pc' := 40) rfl (hb hby d22_70) (by decide) (by decide) (XS.iload X22.here hx rfl (hb hby d22_40) rfl (XS.iconst X22.here hx rfl (hb hby d22_42) (XS.icmpNo X22.here hx rfl (hb hby d22_43) rfl (feq (by decide : ¬ ((2 : Int32) = (-1 : Int32)))).1 (XS.aloadN X22.here hx rfl (hb hby d22_46) rfl rfl k)))))) ?_
    obtain ⟨T26, X26, e26, st26⟩ := getF X22 hx hZ hown (host := "") (Or.inl (hw _ mm122)) Via.refl e22 c19 (g := (mkF m 47 #[lR a, lI 0, lI x, lI 3, lI 1, lI 1, lI 2] [(.ref a)])) rfl rfl (hb hby d22_47)
    refine Ds (B := T26.setTop (mkF m 50 #[lR a, lI 0, lI x, lI 3, lI 1, lI 1, lI 2] [(.ref ui)])) (fun _ k => st26 _ k) ?_
    refine Ds (B := T26.setTop (mkF m 52 #[lR a, lI 0, lI x, lI 3, lI 1, lI 1, lI 2] [(.int 2), (.ref ui)])) (fun _ k => XS.iload X26.here hx rfl (hb hby d22_50) rfl k) ?_
    obtain ⟨cl27, Ar27, q27, S27, M27, H27, G27⟩ := id c21
    have hin27 : ¬ ((2 : Int32) < 0 ∨ cl27.slots.size ≤ ((2 : Int32)).toNatClampNeg) := inb_of S27 ⟨by decide, by decide⟩
    have hat27 : cl27.slots[((2 : Int32)).toNatClampNeg]? = some (.int ii2) := Has.at H27 hin27 rfl
    refine Ds (B := T26.setTop (mkF m 53 #[lR a, lI 0, lI x, lI 3, lI 1, lI 1, lI 2] [(.int ii2)])) (fun _ k => X26.iaload hx (j := (2 : Int32)) (v := (.int ii2)) (by rw [e26]; exact Ar27.1) (State.isArrayOf_alike hZ.alike Ar27.2.1) Ar27.2.2 hin27 hat27 (g := (mkF m 52 #[lR a, lI 0, lI x, lI 3, lI 1, lI 1, lI 2] [(.int 2), (.ref ui)])) rfl rfl (hb hby d22_52) _ k) ?_
    refine Ds (B := T26.setTop (mkF m 54 #[lR a, lI 0, lI x, lI 3, lI 1, lI 1, lI 2] [(.int x), (.int ii2)])) (fun _ k => XS.iloadN X26.here hx rfl (hb hby d22_53) rfl k) ?_
    by_cases hc54' : ii2 < x
    · refine Ds (B := T26.setTop (mkF m 62 #[lR a, lI 0, lI x, lI 3, lI 1, lI 2, lI 2] [(.ref a)])) (fun _ k => XS.icmpNo X26.here hx rfl (hb hby d22_54) rfl (tlt (hc54')).2.1 (XS.iload X26.here hx rfl (hb hby d22_57) rfl (XS.istore X26.here hx rfl (hb hby d22_59) rfl (l' := #[lR a, lI 0, lI x, lI 3, lI 1, lI 2, lI 2]) rfl (XS.aloadN X26.here hx rfl (hb hby d22_61) rfl rfl k)))) ?_
      obtain ⟨T28, X28, e28, st28⟩ := getF X26 hx hZ hown (host := "") (Or.inl (hw _ mm128)) Via.refl e26 c23 (g := (mkF m 62 #[lR a, lI 0, lI x, lI 3, lI 1, lI 2, lI 2] [(.ref a)])) rfl rfl (hb hby d22_62)
      refine Ds (B := T28.setTop (mkF m 65 #[lR a, lI 0, lI x, lI 3, lI 1, lI 2, lI 2] [(.ref un)])) (fun _ k => st28 _ k) ?_
      refine Ds (B := T28.setTop (mkF m 67 #[lR a, lI 0, lI x, lI 3, lI 1, lI 2, lI 2] [(.int 2), (.ref un)])) (fun _ k => XS.iload X28.here hx rfl (hb hby d22_65) rfl k) ?_
      obtain ⟨cl29, Ar29, q29, S29, M29, H29, G29⟩ := id c25
      have hin29 : ¬ ((2 : Int32) < 0 ∨ cl29.slots.size ≤ ((2 : Int32)).toNatClampNeg) := inb_of S29 ⟨by decide, by decide⟩
      have hat29 : cl29.slots[((2 : Int32)).toNatClampNeg]? = some (.int (-1)) := Has.at H29 hin29 rfl
      refine Ds (B := T28.setTop (mkF m 68 #[lR a, lI 0, lI x, lI 3, lI 1, lI 2, lI 2] [(.int (-1))])) (fun _ k => X28.iaload hx (j := (2 : Int32)) (v := (.int (-1))) (by rw [e28]; exact Ar29.1) (State.isArrayOf_alike hZ.alike Ar29.2.1) Ar29.2.2 hin29 hat29 (g := (mkF m 67 #[lR a, lI 0, lI x, lI 3, lI 1, lI 2, lI 2] [(.int 2), (.ref un)])) rfl rfl (hb hby d22_67) _ k) ?_
      refine Ds (B := T28.setTop (mkF m 74 #[lR a, lI 0, lI x, lI 3, lI 1, lI 2, lI (-1)] [(.ref a)])) (fun _ k => XS.istore X28.here hx rfl (hb hby d22_68) rfl (l' := #[lR a, lI 0, lI x, lI 3, lI 1, lI 2, lI (-1)]) rfl (XS.goto X28.here hx rfl (pc0 := 70) (pc' := 40) rfl (hb hby d22_70) (by decide) (by decide) (XS.iload X28.here hx rfl (hb hby d22_40) rfl (XS.iconst X28.here hx rfl (hb hby d22_42) (XS.icmpYes X28.here hx rfl (pc0 := 43) (pc' := 73) rfl (hb hby d22_43) rfl (teq (rfl : (-1 : Int32) = (-1 : Int32))).1 (by decide) (by decide) (XS.aloadN X28.here hx rfl (hb hby d22_73) rfl rfl k)))))) ?_
      obtain ⟨T30, X30, e30, st30⟩ := getF X28 hx hZ hown (host := "") (Or.inl (hw _ mm128)) Via.refl e28 c23 (g := (mkF m 74 #[lR a, lI 0, lI x, lI 3, lI 1, lI 2, lI (-1)] [(.ref a)])) rfl rfl (hb hby d22_74)
      refine Ds (B := T30.setTop (mkF m 77 #[lR a, lI 0, lI x, lI 3, lI 1, lI 2, lI (-1)] [(.ref un)])) (fun _ k => st30 _ k) ?_
      refine Ds (B := T30.setTop (mkF m 80 #[lR a, lI 0, lI x, lI 3, lI 1, lI 2, lI (-1)] [(.int (-1)), (.int 3), (.ref un)])) (fun _ k => XS.iloadN X30.here hx rfl (hb hby d22_77) rfl (XS.iload X30.here hx rfl (hb hby d22_78) rfl k)) ?_
      obtain ⟨cl31, Ar31, q31, S31, M31, H31, G31⟩ := id c25
      have hin31 : ¬ ((3 : Int32) < 0 ∨ cl31.slots.size ≤ ((3 : Int32)).toNatClampNeg) := inb_of S31 ⟨by decide, by decide⟩
      obtain ⟨T31, h31, X31, e31, W31, st31⟩ := stI X30 hx hZ e30 Ar31 (j := (3 : Int32)) hin31 (g := (mkF m 80 #[lR a, lI 0, lI x, lI 3, lI 1, lI 2, lI (-1)] [(.int (-1)), (.int 3), (.ref un)])) rfl rfl (hb hby d22_80)
      have V31 : Arv Z h31 un kun .int 5 [(.int nn0), (.int 2), (.int (-1)), (.int (-1)), (.int nn4)] (.int 0) := Arv.set Ar31 q31 S31 M31 H31 G31 rfl W31 3 rfl (Nat.le_of_ble_eq_true rfl)
      have N31 := Fr.snoc X31 N13 g_un
      have Z31 : n0 ≤ h31.size := Nat.le_trans Z13 (Keep.of_wr W31).1
      have KK31 : Keep h0 h31 [up, ui, ud, uf, un] := (KK13).wr W31 (Or.inl (List.mem_of_getElem? (i := 4) rfl))
      refine Ds (B := T31.setTop (mkF m 81 #[lR a, lI 0, lI x, lI 3, lI 1, lI 2, lI (-1)] [])) (fun _ k => st31 _ k) ?_
      refine Ds (B := T31.setTop (mkF m 98 #[lR a, lI 0, lI x, lI 3, lI 1, lI 2, lI (-1)] [(.ref a)])) (fun _ k => XS.iload X31.here hx rfl (hb hby d22_81) rfl (XS.iconst X31.here hx rfl (hb hby d22_83) (XS.icmpYes X31.here hx rfl (pc0 := 84) (pc' := 97) rfl (hb hby d22_84) rfl (feq (by decide : ¬ ((2 : Int32) = (-1 : Int32)))).2 (by decide) (by decide) (XS.aloadN X31.here hx rfl (hb hby d22_97) rfl rfl k)))) ?_
      have c33 := (Fld.other W31 c23 (Or.inl ne_a_un))
      obtain ⟨T32, X32, e32, st32⟩ := getF X31 hx hZ hown (host := "") (Or.inl (hw _ mm128)) Via.refl e31 c33 (g := (mkF m 98 #[lR a, lI 0, lI x, lI 3, lI 1, lI 2, lI (-1)] [(.ref a)])) rfl rfl (hb hby d22_98)
      refine Ds (B := T32.setTop (mkF m 101 #[lR a, lI 0, lI x, lI 3, lI 1, lI 2, lI (-1)] [(.ref un)])) (fun _ k => st32 _ k) ?_
      refine Ds (B := T32.setTop (mkF m 104 #[lR a, lI 0, lI x, lI 3, lI 1, lI 2, lI (-1)] [(.int 3), (.int 2), (.ref un)])) (fun _ k => XS.iload X32.here hx rfl (hb hby d22_101) rfl (XS.iloadN X32.here hx rfl (hb hby d22_103) rfl k)) ?_
      obtain ⟨cl34, Ar34, q34, S34, M34, H34, G34⟩ := id V31
      have hin34 : ¬ ((2 : Int32) < 0 ∨ cl34.slots.size ≤ ((2 : Int32)).toNatClampNeg) := inb_of S34 ⟨by decide, by decide⟩
      obtain ⟨T34, h34, X34, e34, W34, st34⟩ := stI X32 hx hZ e32 Ar34 (j := (2 : Int32)) hin34 (g := (mkF m 104 #[lR a, lI 0, lI x, lI 3, lI 1, lI 2, lI (-1)] [(.int 3), (.int 2), (.ref un)])) rfl rfl (hb hby d22_104)
      have V34 : Arv Z h34 un kun .int 5 [(.int nn0), (.int 2), (.int 3), (.int (-1)), (.int nn4)] (.int 0) := Arv.set Ar34 q34 S34 M34 H34 G34 rfl W34 2 rfl (Nat.le_of_ble_eq_true rfl)
      have N34 := Fr.snoc X34 N31 g_un
      have Z34 : n0 ≤ h34.size := Nat.le_trans Z31 (Keep.of_wr W34).1
      have KK34 : Keep h0 h34 [up, ui, ud, uf, un] := (KK31).wr W34 (Or.inl (List.mem_of_getElem? (i := 4) rfl))
      refine Ds (B := T34.setTop (mkF m 105 #[lR a, lI 0, lI x, lI 3, lI 1, lI 2, lI (-1)] [])) (fun _ k => st34 _ k) ?_
      obtain ⟨fs, hr, hrun, hended, hW, hsame⟩ := X34.leave (v := none) (hlocks := hlk) (fun _ => rfl)
      have c36 := (((((V2.other W5 ne_up_ui).other W9 ne_up_ud).other W13 ne_up_uf).other W31 ne_up_un).other W34 ne_up_un)
      have c37 := ((c21.other W31 ne_ui_un).other W34 ne_ui_un)
      have c38 := (((V9.other W13 ne_ud_uf).other W31 ne_ud_un).other W34 ne_ud_un)
      have c39 := ((V13.other W31 ne_uf_un).other W34 ne_uf_un)
      refine Done.fin (X34.returnOut hx Bd.returns (hb hby d22_105) hr) hrun hended ⟨_, _, rfl, ?_, ⟨_, rfl⟩, hW, hsame.mono (by decide) (by decide)⟩
      show QrmLK_4 Z a x up kup ui kui ud kud uf kuf un kun pp0 pp1 pp2 pp3 pp4 ii0 ii1 ii2 ii3 ii4 dd0 dd1 dd2 dd3 dd4 ff1 ff2 ff3 ff4 nn0 nn3 nn4 h0 n0 _ T34.heap _
      rw [e34]
      exact ⟨rfl, N34, KK34, fun gg0 => absurd hc54 gg0, fun gg0 gg1 => absurd hc54' gg1, fun gg0 gg1 => ⟨c36, c37, c38, c39, V34⟩⟩
    · refine Ds (B := T26.setTop (mkF m 74 #[lR a, lI 0, lI x, lI 3, lI 1, lI 1, lI 2] [(.ref a)])) (fun _ k => XS.icmpYes X26.here hx rfl (pc0 := 54) (pc' := 73) rfl (hb hby d22_54) rfl (flt (hc54')).2.1 (by decide) (by decide) (XS.aloadN X26.here hx rfl (hb hby d22_73) rfl rfl k)) ?_
      obtain ⟨T40, X40, e40, st40⟩ := getF X26 hx hZ hown (host := "") (Or.inl (hw _ mm128)) Via.refl e26 c23 (g := (mkF m 74 #[lR a, lI 0, lI x, lI 3, lI 1, lI 1, lI 2] [(.ref a)])) rfl rfl (hb hby d22_74)
      refine Ds (B := T40.setTop (mkF m 77 #[lR a, lI 0, lI x, lI 3, lI 1, lI 1, lI 2] [(.ref un)])) (fun _ k => st40 _ k) ?_
      refine Ds (B := T40.setTop (mkF m 80 #[lR a, lI 0, lI x, lI 3, lI 1, lI 1, lI 2] [(.int 2), (.int 3), (.ref un)])) (fun _ k => XS.iloadN X40.here hx rfl (hb hby d22_77) rfl (XS.iload X40.here hx rfl (hb hby d22_78) rfl k)) ?_
      obtain ⟨cl41, Ar41, q41, S41, M41, H41, G41⟩ := id c25
      have hin41 : ¬ ((3 : Int32) < 0 ∨ cl41.slots.size ≤ ((3 : Int32)).toNatClampNeg) := inb_of S41 ⟨by decide, by decide⟩
      obtain ⟨T41, h41, X41, e41, W41, st41⟩ := stI X40 hx hZ e40 Ar41 (j := (3 : Int32)) hin41 (g := (mkF m 80 #[lR a, lI 0, lI x, lI 3, lI 1, lI 1, lI 2] [(.int 2), (.int 3), (.ref un)])) rfl rfl (hb hby d22_80)
      have V41 : Arv Z h41 un kun .int 5 [(.int nn0), (.int 2), (.int (-1)), (.int 2), (.int nn4)] (.int 0) := Arv.set Ar41 q41 S41 M41 H41 G41 rfl W41 3 rfl (Nat.le_of_ble_eq_true rfl)
      have N41 := Fr.snoc X41 N13 g_un
      have Z41 : n0 ≤ h41.size := Nat.le_trans Z13 (Keep.of_wr W41).1
      have KK41 : Keep h0 h41 [up, ui, ud, uf, un] := (KK13).wr W41 (Or.inl (List.mem_of_getElem? (i := 4) rfl))
      refine Ds (B := T41.setTop (mkF m 81 #[lR a, lI 0, lI x, lI 3, lI 1, lI 1, lI 2] [])) (fun _ k => st41 _ k) ?_
      refine Ds (B := T41.setTop (mkF m 98 #[lR a, lI 0, lI x, lI 3, lI 1, lI 1, lI 2] [(.ref a)])) (fun _ k => XS.iload X41.here hx rfl (hb hby d22_81) rfl (XS.iconst X41.here hx rfl (hb hby d22_83) (XS.icmpYes X41.here hx rfl (pc0 := 84) (pc' := 97) rfl (hb hby d22_84) rfl (feq (by decide : ¬ ((1 : Int32) = (-1 : Int32)))).2 (by decide) (by decide) (XS.aloadN X41.here hx rfl (hb hby d22_97) rfl rfl k)))) ?_
      have c43 := (Fld.other W41 c23 (Or.inl ne_a_un))
      obtain ⟨T42, X42, e42, st42⟩ := getF X41 hx hZ hown (host := "") (Or.inl (hw _ mm128)) Via.refl e41 c43 (g := (mkF m 98 #[lR a, lI 0, lI x, lI 3, lI 1, lI 1, lI 2] [(.ref a)])) rfl rfl (hb hby d22_98)
      refine Ds (B := T42.setTop (mkF m 101 #[lR a, lI 0, lI x, lI 3, lI 1, lI 1, lI 2] [(.ref un)])) (fun _ k => st42 _ k) ?_
      refine Ds (B := T42.setTop (mkF m 104 #[lR a, lI 0, lI x, lI 3, lI 1, lI 1, lI 2] [(.int 3), (.int 1), (.ref un)])) (fun _ k => XS.iload X42.here hx rfl (hb hby d22_101) rfl (XS.iloadN X42.here hx rfl (hb hby d22_103) rfl k)) ?_
      obtain ⟨cl44, Ar44, q44, S44, M44, H44, G44⟩ := id V41
      have hin44 : ¬ ((1 : Int32) < 0 ∨ cl44.slots.size ≤ ((1 : Int32)).toNatClampNeg) := inb_of S44 ⟨by decide, by decide⟩
      obtain ⟨T44, h44, X44, e44, W44, st44⟩ := stI X42 hx hZ e42 Ar44 (j := (1 : Int32)) hin44 (g := (mkF m 104 #[lR a, lI 0, lI x, lI 3, lI 1, lI 1, lI 2] [(.int 3), (.int 1), (.ref un)])) rfl rfl (hb hby d22_104)
      have V44 : Arv Z h44 un kun .int 5 [(.int nn0), (.int 3), (.int (-1)), (.int 2), (.int nn4)] (.int 0) := Arv.set Ar44 q44 S44 M44 H44 G44 rfl W44 1 rfl (Nat.le_of_ble_eq_true rfl)
      have N44 := Fr.snoc X44 N41 g_un
      have Z44 : n0 ≤ h44.size := Nat.le_trans Z41 (Keep.of_wr W44).1
      have KK44 : Keep h0 h44 [up, ui, ud, uf, un] := (KK41).wr W44 (Or.inl (List.mem_of_getElem? (i := 4) rfl))
      refine Ds (B := T44.setTop (mkF m 105 #[lR a, lI 0, lI x, lI 3, lI 1, lI 1, lI 2] [])) (fun _ k => st44 _ k) ?_
      obtain ⟨fs, hr, hrun, hended, hW, hsame⟩ := X44.leave (v := none) (hlocks := hlk) (fun _ => rfl)
      have c46 := (((((V2.other W5 ne_up_ui).other W9 ne_up_ud).other W13 ne_up_uf).other W41 ne_up_un).other W44 ne_up_un)
      have c47 := ((c21.other W41 ne_ui_un).other W44 ne_ui_un)
      have c48 := (((V9.other W13 ne_ud_uf).other W41 ne_ud_un).other W44 ne_ud_un)
      have c49 := ((V13.other W41 ne_uf_un).other W44 ne_uf_un)
      refine Done.fin (X44.returnOut hx Bd.returns (hb hby d22_105) hr) hrun hended ⟨_, _, rfl, ?_, ⟨_, rfl⟩, hW, hsame.mono (by decide) (by decide)⟩
      show QrmLK_4 Z a x up kup ui kui ud kud uf kuf un kun pp0 pp1 pp2 pp3 pp4 ii0 ii1 ii2 ii3 ii4 dd0 dd1 dd2 dd3 dd4 ff1 ff2 ff3 ff4 nn0 nn3 nn4 h0 n0 _ T44.heap _
      rw [e44]
      exact ⟨rfl, N44, KK44, fun gg0 => absurd hc54 gg0, fun gg0 gg1 => ⟨c46, c47, c48, c49, V44⟩, fun gg0 gg1 => absurd gg1 hc54'⟩
  · refine Ds (B := T18.setTop (mkF m 74 #[lR a, lI 0, lI x, lI 3, lI 1, lI (-1), lI 1] [(.ref a)])) (fun _ k => XS.icmpYes X18.here hx rfl (pc0 := 54) (pc' := 73) rfl (hb hby d22_54) rfl (flt hc54).2.1 (by decide) (by decide) (XS.aloadN X18.here hx rfl (hb hby d22_73) rfl rfl k)) ?_
    have c51 := (Fld.other W13 (Fld.other W9 (Fld.other W5 (Fld.other W2 F_nextSiblings (Or.inl ne_a_up)) (Or.inl ne_a_ui)) (Or.inl ne_a_ud)) (Or.inl ne_a_uf))
    obtain ⟨T50, X50, e50, st50⟩ := getF X18 hx hZ hown (host := "") (Or.inl (hw _ mm128)) Via.refl e18 c51 (g := (mkF m 74 #[lR a, lI 0, lI x, lI 3, lI 1, lI (-1), lI 1] [(.ref a)])) rfl rfl (hb hby d22_74)
    refine Ds (B := T50.setTop (mkF m 77 #[lR a, lI 0, lI x, lI 3, lI 1, lI (-1), lI 1] [(.ref un)])) (fun _ k => st50 _ k) ?_
    refine Ds (B := T50.setTop (mkF m 80 #[lR a, lI 0, lI x, lI 3, lI 1, lI (-1), lI 1] [(.int 1), (.int 3), (.ref un)])) (fun _ k => XS.iloadN X50.here hx rfl (hb hby d22_77) rfl (XS.iload X50.here hx rfl (hb hby d22_78) rfl k)) ?_
    have c53 := ((((V_nextSiblings.other W2 (Ne.symm ne_up_un)).other W5 (Ne.symm ne_ui_un)).other W9 (Ne.symm ne_ud_un)).other W13 (Ne.symm ne_uf_un))
    obtain ⟨cl52, Ar52, q52, S52, M52, H52, G52⟩ := id c53
    have hin52 : ¬ ((3 : Int32) < 0 ∨ cl52.slots.size ≤ ((3 : Int32)).toNatClampNeg) := inb_of S52 ⟨by decide, by decide⟩
    obtain ⟨T52, h52, X52, e52, W52, st52⟩ := stI X50 hx hZ e50 Ar52 (j := (3 : Int32)) hin52 (g := (mkF m 80 #[lR a, lI 0, lI x, lI 3, lI 1, lI (-1), lI 1] [(.int 1), (.int 3), (.ref un)])) rfl rfl (hb hby d22_80)
    have V52 : Arv Z h52 un kun .int 5 [(.int nn0), (.int 2), (.int (-1)), (.int 1), (.int nn4)] (.int 0) := Arv.set Ar52 q52 S52 M52 H52 G52 rfl W52 3 rfl (Nat.le_of_ble_eq_true rfl)
    have N52 := Fr.snoc X52 N13 g_un
    have Z52 : n0 ≤ h52.size := Nat.le_trans Z13 (Keep.of_wr W52).1
    have KK52 : Keep h0 h52 [up, ui, ud, uf, un] := (KK13).wr W52 (Or.inl (List.mem_of_getElem? (i := 4) rfl))
    refine Ds (B := T52.setTop (mkF m 81 #[lR a, lI 0, lI x, lI 3, lI 1, lI (-1), lI 1] [])) (fun _ k => st52 _ k) ?_
    refine Ds (B := T52.setTop (mkF m 88 #[lR a, lI 0, lI x, lI 3, lI 1, lI (-1), lI 1] [(.ref a)])) (fun _ k => XS.iload X52.here hx rfl (hb hby d22_81) rfl (XS.iconst X52.here hx rfl (hb hby d22_83) (XS.icmpNo X52.here hx rfl (hb hby d22_84) rfl (teq (rfl : (-1 : Int32) = (-1 : Int32))).2 (XS.aloadN X52.here hx rfl (hb hby d22_87) rfl rfl k)))) ?_
    have c55 := (Fld.other W52 c16 (Or.inl ne_a_un))
    obtain ⟨T54, X54, e54, st54⟩ := getF X52 hx hZ hown (host := "") (Or.inl (hw _ mm126)) Via.refl e52 c55 (g := (mkF m 88 #[lR a, lI 0, lI x, lI 3, lI 1, lI (-1), lI 1] [(.ref a)])) rfl rfl (hb hby d22_88)
    refine Ds (B := T54.setTop (mkF m 91 #[lR a, lI 0, lI x, lI 3, lI 1, lI (-1), lI 1] [(.ref uf)])) (fun _ k => st54 _ k) ?_
    refine Ds (B := T54.setTop (mkF m 93 #[lR a, lI 0, lI x, lI 3, lI 1, lI (-1), lI 1] [(.int 3), (.int 0), (.ref uf)])) (fun _ k => XS.iloadN X54.here hx rfl (hb hby d22_91) rfl (XS.iloadN X54.here hx rfl (hb hby d22_92) rfl k)) ?_
    have c57 := (V13.other W52 ne_uf_un)
    obtain ⟨cl56, Ar56, q56, S56, M56, H56, G56⟩ := id c57
    have hin56 : ¬ ((0 : Int32) < 0 ∨ cl56.slots.size ≤ ((0 : Int32)).toNatClampNeg) := inb_of S56 ⟨by decide, by decide⟩
    obtain ⟨T56, h56, X56, e56, W56, st56⟩ := stI X54 hx hZ e54 Ar56 (j := (0 : Int32)) hin56 (g := (mkF m 93 #[lR a, lI 0, lI x, lI 3, lI 1, lI (-1), lI 1] [(.int 3), (.int 0), (.ref uf)])) rfl rfl (hb hby d22_93)
    have V56 : Arv Z h56 uf kuf .int 5 [(.int 3), (.int ff1), (.int ff2), (.int (-1)), (.int ff4)] (.int 0) := Arv.set Ar56 q56 S56 M56 H56 G56 rfl W56 0 rfl (Nat.le_of_ble_eq_true rfl)
    have N56 := Fr.snoc X56 N52 g_uf
    have Z56 : n0 ≤ h56.size := Nat.le_trans Z52 (Keep.of_wr W56).1
    have KK56 : Keep h0 h56 [up, ui, ud, uf, un] := (KK52).wr W56 (Or.inl (List.mem_of_getElem? (i := 3) rfl))
    refine Ds (B := T56.setTop (mkF m 94 #[lR a, lI 0, lI x, lI 3, lI 1, lI (-1), lI 1] [])) (fun _ k => st56 _ k) ?_
    refine Ds (B := T56.setTop (mkF m 105 #[lR a, lI 0, lI x, lI 3, lI 1, lI (-1), lI 1] [])) (fun _ k => XS.goto X56.here hx rfl (pc0 := 94) (pc' := 105) rfl (hb hby d22_94) (by decide) (by decide) k) ?_
    obtain ⟨fs, hr, hrun, hended, hW, hsame⟩ := X56.leave (v := none) (hlocks := hlk) (fun _ => rfl)
    have c59 := (((((V2.other W5 ne_up_ui).other W9 ne_up_ud).other W13 ne_up_uf).other W52 ne_up_un).other W56 ne_up_uf)
    have c60 := ((c21.other W52 ne_ui_un).other W56 ne_ui_uf)
    have c61 := (((V9.other W13 ne_ud_uf).other W52 ne_ud_un).other W56 ne_ud_uf)
    have c62 := (V52.other W56 (Ne.symm ne_uf_un))
    refine Done.fin (X56.returnOut hx Bd.returns (hb hby d22_105) hr) hrun hended ⟨_, _, rfl, ?_, ⟨_, rfl⟩, hW, hsame.mono (by decide) (by decide)⟩
    show QrmLK_4 Z a x up kup ui kui ud kud uf kuf un kun pp0 pp1 pp2 pp3 pp4 ii0 ii1 ii2 ii3 ii4 dd0 dd1 dd2 dd3 dd4 ff1 ff2 ff3 ff4 nn0 nn3 nn4 h0 n0 _ T56.heap _
    rw [e56]
    exact ⟨rfl, N56, KK56, fun gg0 => ⟨c59, c60, c61, V56, c62⟩, fun gg0 gg1 => absurd gg0 hc54, fun gg0 gg1 => absurd gg0 hc54⟩
theorem ef_rmLK_5 (m : MethodId) (a : Addr) (x : Int32) : entryFrame m #[(.ref a), (.int 1), (.int x), (.int 2), (.int 2)] 7 = mkF m 0 #[lR a, lI 1, lI x, lI 2, lI 2, lU, lU] [] := by first | (simp [entryFrame, mkF, argsToLocals, Value.category]; done) | rfl
def QrmLK_5 (Z : State) (a : Addr) (x : Int32) (up : Addr) (kup : ClassId) (ui : Addr) (kui : ClassId) (ud : Addr) (kud : ClassId) (uf : Addr) (kuf : ClassId) (un : Addr) (kun : ClassId) (pp0 : Int32) (pp1 : Int32) (pp2 : Int32) (pp3 : Int32) (pp4 : Int32) (ii0 : Int32) (ii1 : Int32) (ii2 : Int32) (ii3 : Int32) (ii4 : Int32) (dd0 : Int32) (dd1 : Int32) (dd2 : Int32) (dd3 : Int32) (dd4 : Int32) (ff0 : Int32) (ff2 : Int32) (ff3 : Int32) (ff4 : Int32) (nn0 : Int32) (nn1 : Int32) (nn2 : Int32) (nn3 : Int32) (nn4 : Int32) (h0 : Heap) (n0 : Nat) (v : Option Value) (h : Heap) (L : List Loc) : Prop := v = none ∧ Fr n0 L ∧ Keep h0 h [up, ui, ud, uf, un] ∧ ((Arv Z h up kup .int 5 [(.int pp0), (.int pp1), (.int 1), (.int pp3), (.int pp4)] (.int 0) ∧ Arv Z h ui kui .int 5 [(.int ii0), (.int ii1), (.int x), (.int ii3), (.int ii4)] (.int 0) ∧ Arv Z h ud kud .int 5 [(.int dd0), (.int dd1), (.int 2), (.int dd3), (.int dd4)] (.int 0) ∧ Arv Z h uf kuf .int 5 [(.int ff0), (.int 2), (.int (-1)), (.int ff3), (.int ff4)] (.int 0) ∧ Arv Z h un kun .int 5 [(.int nn0), (.int nn1), (.int (-1)), (.int nn3), (.int nn4)] (.int 0)))
def PrmLK_5 (s : State) (Z : State) (a : Addr) (x : Int32) (up : Addr) (kup : ClassId) (ui : Addr) (kui : ClassId) (ud : Addr) (kud : ClassId) (uf : Addr) (kuf : ClassId) (un : Addr) (kun : ClassId) (pp0 : Int32) (pp1 : Int32) (pp2 : Int32) (pp3 : Int32) (pp4 : Int32) (ii0 : Int32) (ii1 : Int32) (ii2 : Int32) (ii3 : Int32) (ii4 : Int32) (dd0 : Int32) (dd1 : Int32) (dd2 : Int32) (dd3 : Int32) (dd4 : Int32) (ff0 : Int32) (ff2 : Int32) (ff3 : Int32) (ff4 : Int32) (nn0 : Int32) (nn1 : Int32) (nn2 : Int32) (nn3 : Int32) (nn4 : Int32) (h0 : Heap) (n0 : Nat) : State → Outcome → Prop := fun U' o => ∃ v L, o = .returned v ∧ QrmLK_5 Z a x up kup ui kui ud kud uf kuf un kun pp0 pp1 pp2 pp3 pp4 ii0 ii1 ii2 ii3 ii4 dd0 dd1 dd2 dd3 dd4 ff0 ff2 ff3 ff4 nn0 nn1 nn2 nn3 nn4 h0 n0 v U'.heap L ∧ FrameEnd s o U' L ({ frames := 0, cells := 0, slots := 0, locals := 0 } : Room).cells ({ frames := 0, cells := 0, slots := 0, locals := 0 } : Room).slots
set_option maxRecDepth 65536 in
set_option maxHeartbeats 40000000 in
theorem rmLK_5 (l : Launch) (Z : State) (a0 : Array Value) (hw : ∀ d ∈ tables_1, d.before a0 Z = true) (ws : List Jvm.Cond) (a : Addr) (x : Int32) (up : Addr) (kup : ClassId) (ui : Addr) (kui : ClassId) (ud : Addr) (kud : ClassId) (uf : Addr) (kuf : ClassId) (un : Addr) (kun : ClassId) (pp0 : Int32) (pp1 : Int32) (pp2 : Int32) (pp3 : Int32) (pp4 : Int32) (ii0 : Int32) (ii1 : Int32) (ii2 : Int32) (ii3 : Int32) (ii4 : Int32) (dd0 : Int32) (dd1 : Int32) (dd2 : Int32) (dd3 : Int32) (dd4 : Int32) (ff0 : Int32) (ff2 : Int32) (ff3 : Int32) (ff4 : Int32) (nn0 : Int32) (nn1 : Int32) (nn2 : Int32) (nn3 : Int32) (nn4 : Int32) (h0 : Heap) (n0 : Nat) (Z0 : n0 ≤ h0.size) (F_parents : Fld Z h0 a "com/example/percurso/percurso/suite/PrefixTree" "parents" "[I" (.ref up)) (F_inputs : Fld Z h0 a "com/example/percurso/percurso/suite/PrefixTree" "inputs" "[I" (.ref ui)) (F_depths : Fld Z h0 a "com/example/percurso/percurso/suite/PrefixTree" "depths" "[I" (.ref ud)) (F_firstChildren : Fld Z h0 a "com/example/percurso/percurso/suite/PrefixTree" "firstChildren" "[I" (.ref uf)) (F_nextSiblings : Fld Z h0 a "com/example/percurso/percurso/suite/PrefixTree" "nextSiblings" "[I" (.ref un)) (V_parents : Arv Z h0 up kup .int 5 [(.int pp0), (.int pp1), (.int pp2), (.int pp3), (.int pp4)] (.int 0)) (V_inputs : Arv Z h0 ui kui .int 5 [(.int ii0), (.int ii1), (.int ii2), (.int ii3), (.int ii4)] (.int 0)) (V_depths : Arv Z h0 ud kud .int 5 [(.int dd0), (.int dd1), (.int dd2), (.int dd3), (.int dd4)] (.int 0)) (V_firstChildren : Arv Z h0 uf kuf .int 5 [(.int ff0), (.int (-1)), (.int ff2), (.int ff3), (.int ff4)] (.int 0)) (V_nextSiblings : Arv Z h0 un kun .int 5 [(.int nn0), (.int nn1), (.int nn2), (.int nn3), (.int nn4)] (.int 0)) (g_up : n0 ≤ up) (g_ui : n0 ≤ ui) (g_ud : n0 ≤ ud) (g_uf : n0 ≤ uf) (g_un : n0 ≤ un) (ne_up_ui : up ≠ ui) (ne_up_ud : up ≠ ud) (ne_up_uf : up ≠ uf) (ne_up_un : up ≠ un) (ne_ui_ud : ui ≠ ud) (ne_ui_uf : ui ≠ uf) (ne_ui_un : ui ≠ un) (ne_ud_uf : ud ≠ uf) (ne_ud_un : ud ≠ un) (ne_uf_un : uf ≠ un) (ne_a_up : a ≠ up) (ne_a_ui : a ≠ ui) (ne_a_ud : a ≠ ud) (ne_a_uf : a ≠ uf) (ne_a_un : a ≠ un) :
    MetFree l (⟨"com/example/percurso/percurso/suite/PrefixTree", "link", "(IIII)V"⟩ : MethodName) (head1 (Jvm.Cond.code (⟨"com/example/percurso/percurso/suite/PrefixTree", "link", "(IIII)V"⟩ : MethodName) prog_191_method_2_code 7 none :: ws) ({ frames := 0, cells := 0, slots := 0, locals := 0 } : Room)) (fun aa U => aa = #[(.ref a), (.int 1), (.int x), (.int 2), (.int 2)] ∧ Z.Warmed39 U.vm ∧ U.heap = h0) (fun _ _ _ _ _ => True) (fun _ U o U' => ∃ v L, o = .returned v ∧ QrmLK_5 Z a x up kup ui kui ud kud uf kuf un kun pp0 pp1 pp2 pp3 pp4 ii0 ii1 ii2 ii3 ii4 dd0 dd1 dd2 dd3 dd4 ff0 ff2 ff3 ff4 nn0 nn1 nn2 nn3 nn4 h0 n0 v U'.heap L ∧ FrameEnd U o U' L ({ frames := 0, cells := 0, slots := 0, locals := 0 } : Room).cells ({ frames := 0, cells := 0, slots := 0, locals := 0 } : Room).slots) := by
  refine MetFree.of_bodySF (plainFor_of_name pn_6) hisR ?_
  intro p e s m args below meth c s₁ Bd hml0 hP hK
  obtain ⟨rfl, hZ, hh⟩ := hP
  have hx := Bd.exec
  have hlk : meth.locks = false := by first | exact BodyLoose.notSynchronized Bd | exact Body.notSynchronized Bd
  have hby := Bd.bytes
  have hml : c.maxLocals = 7 := hml0
  have hown : s.vm.findClass "com/example/percurso/percurso/suite/PrefixTree" = some m.cls := findClass_of_methodNamed Bd.named
  have hnm := (name_of_methodNamed Bd.named Bd.method).1
  have X0 : Stand p l e ({ frames := 0, cells := 0, slots := 0, locals := 0 } : Room) s m #[(.ref a), (.int 1), (.int x), (.int 2), (.int 2)] below meth c s₁ [] 0 0 := Stand.of_body Bd
  have e0 : s₁.heap = h0 := by rw [← hh, Bd.state]; rfl
  have N0 := Fr.nil n0
  show Done p e below (PrmLK_5 s Z a x up kup ui kui ud kud uf kuf un kun pp0 pp1 pp2 pp3 pp4 ii0 ii1 ii2 ii3 ii4 dd0 dd1 dd2 dd3 dd4 ff0 ff2 ff3 ff4 nn0 nn1 nn2 nn3 nn4 h0 n0) (s₁.setTop (entryFrame m #[(.ref a), (.int 1), (.int x), (.int 2), (.int 2)] 7))
  refine Ds (B := s₁.setTop (mkF m 0 #[lR a, lI 1, lI x, lI 2, lI 2, lU, lU] [])) (fun _ k => castTop (ef_rmLK_5 m a x) k) ?_
  refine Ds (B := s₁.setTop (mkF m 1 #[lR a, lI 1, lI x, lI 2, lI 2, lU, lU] [(.ref a)])) (fun _ k => XS.aloadN X0.here hx rfl (hb hby d22_0) rfl rfl k) ?_
  obtain ⟨T1, X1, e1, st1⟩ := getF X0 hx hZ hown (host := "") (Or.inl (hw _ mm120)) Via.refl e0 F_parents (g := (mkF m 1 #[lR a, lI 1, lI x, lI 2, lI 2, lU, lU] [(.ref a)])) rfl rfl (hb hby d22_1)
  refine Ds (B := T1.setTop (mkF m 4 #[lR a, lI 1, lI x, lI 2, lI 2, lU, lU] [(.ref up)])) (fun _ k => st1 _ k) ?_
  refine Ds (B := T1.setTop (mkF m 6 #[lR a, lI 1, lI x, lI 2, lI 2, lU, lU] [(.int 1), (.int 2), (.ref up)])) (fun _ k => XS.iloadN X1.here hx rfl (hb hby d22_4) rfl (XS.iloadN X1.here hx rfl (hb hby d22_5) rfl k)) ?_
  obtain ⟨cl2, Ar2, q2, S2, M2, H2, G2⟩ := id V_parents
  have hin2 : ¬ ((2 : Int32) < 0 ∨ cl2.slots.size ≤ ((2 : Int32)).toNatClampNeg) := inb_of S2 ⟨by decide, by decide⟩
  obtain ⟨T2, h2, X2, e2, W2, st2⟩ := stI X1 hx hZ e1 Ar2 (j := (2 : Int32)) hin2 (g := (mkF m 6 #[lR a, lI 1, lI x, lI 2, lI 2, lU, lU] [(.int 1), (.int 2), (.ref up)])) rfl rfl (hb hby d22_6)
  have V2 : Arv Z h2 up kup .int 5 [(.int pp0), (.int pp1), (.int 1), (.int pp3), (.int pp4)] (.int 0) := Arv.set Ar2 q2 S2 M2 H2 G2 rfl W2 2 rfl (Nat.le_of_ble_eq_true rfl)
  have N2 := Fr.snoc X2 N0 g_up
  have Z2 : n0 ≤ h2.size := Nat.le_trans Z0 (Keep.of_wr W2).1
  have KK2 : Keep h0 h2 [up, ui, ud, uf, un] := ((Keep.refl h0 [up, ui, ud, uf, un])).wr W2 (Or.inl (List.mem_of_getElem? (i := 0) rfl))
  refine Ds (B := T2.setTop (mkF m 7 #[lR a, lI 1, lI x, lI 2, lI 2, lU, lU] [])) (fun _ k => st2 _ k) ?_
  refine Ds (B := T2.setTop (mkF m 8 #[lR a, lI 1, lI x, lI 2, lI 2, lU, lU] [(.ref a)])) (fun _ k => XS.aloadN X2.here hx rfl (hb hby d22_7) rfl rfl k) ?_
  have c4 := (Fld.other W2 F_inputs (Or.inl ne_a_up))
  obtain ⟨T3, X3, e3, st3⟩ := getF X2 hx hZ hown (host := "") (Or.inl (hw _ mm122)) Via.refl e2 c4 (g := (mkF m 8 #[lR a, lI 1, lI x, lI 2, lI 2, lU, lU] [(.ref a)])) rfl rfl (hb hby d22_8)
  refine Ds (B := T3.setTop (mkF m 11 #[lR a, lI 1, lI x, lI 2, lI 2, lU, lU] [(.ref ui)])) (fun _ k => st3 _ k) ?_
  refine Ds (B := T3.setTop (mkF m 13 #[lR a, lI 1, lI x, lI 2, lI 2, lU, lU] [(.int x), (.int 2), (.ref ui)])) (fun _ k => XS.iloadN X3.here hx rfl (hb hby d22_11) rfl (XS.iloadN X3.here hx rfl (hb hby d22_12) rfl k)) ?_
  have c6 := (V_inputs.other W2 (Ne.symm ne_up_ui))
  obtain ⟨cl5, Ar5, q5, S5, M5, H5, G5⟩ := id c6
  have hin5 : ¬ ((2 : Int32) < 0 ∨ cl5.slots.size ≤ ((2 : Int32)).toNatClampNeg) := inb_of S5 ⟨by decide, by decide⟩
  obtain ⟨T5, h5, X5, e5, W5, st5⟩ := stI X3 hx hZ e3 Ar5 (j := (2 : Int32)) hin5 (g := (mkF m 13 #[lR a, lI 1, lI x, lI 2, lI 2, lU, lU] [(.int x), (.int 2), (.ref ui)])) rfl rfl (hb hby d22_13)
  have V5 : Arv Z h5 ui kui .int 5 [(.int ii0), (.int ii1), (.int x), (.int ii3), (.int ii4)] (.int 0) := Arv.set Ar5 q5 S5 M5 H5 G5 rfl W5 2 rfl (Nat.le_of_ble_eq_true rfl)
  have N5 := Fr.snoc X5 N2 g_ui
  have Z5 : n0 ≤ h5.size := Nat.le_trans Z2 (Keep.of_wr W5).1
  have KK5 : Keep h0 h5 [up, ui, ud, uf, un] := (KK2).wr W5 (Or.inl (List.mem_of_getElem? (i := 1) rfl))
  refine Ds (B := T5.setTop (mkF m 14 #[lR a, lI 1, lI x, lI 2, lI 2, lU, lU] [])) (fun _ k => st5 _ k) ?_
  refine Ds (B := T5.setTop (mkF m 15 #[lR a, lI 1, lI x, lI 2, lI 2, lU, lU] [(.ref a)])) (fun _ k => XS.aloadN X5.here hx rfl (hb hby d22_14) rfl rfl k) ?_
  have c8 := (Fld.other W5 (Fld.other W2 F_depths (Or.inl ne_a_up)) (Or.inl ne_a_ui))
  obtain ⟨T7, X7, e7, st7⟩ := getF X5 hx hZ hown (host := "") (Or.inl (hw _ mm124)) Via.refl e5 c8 (g := (mkF m 15 #[lR a, lI 1, lI x, lI 2, lI 2, lU, lU] [(.ref a)])) rfl rfl (hb hby d22_15)
  refine Ds (B := T7.setTop (mkF m 18 #[lR a, lI 1, lI x, lI 2, lI 2, lU, lU] [(.ref ud)])) (fun _ k => st7 _ k) ?_
  refine Ds (B := T7.setTop (mkF m 21 #[lR a, lI 1, lI x, lI 2, lI 2, lU, lU] [(.int 2), (.int 2), (.ref ud)])) (fun _ k => XS.iloadN X7.here hx rfl (hb hby d22_18) rfl (XS.iload X7.here hx rfl (hb hby d22_19) rfl k)) ?_
  have c10 := ((V_depths.other W2 (Ne.symm ne_up_ud)).other W5 (Ne.symm ne_ui_ud))
  obtain ⟨cl9, Ar9, q9, S9, M9, H9, G9⟩ := id c10
  have hin9 : ¬ ((2 : Int32) < 0 ∨ cl9.slots.size ≤ ((2 : Int32)).toNatClampNeg) := inb_of S9 ⟨by decide, by decide⟩
  obtain ⟨T9, h9, X9, e9, W9, st9⟩ := stI X7 hx hZ e7 Ar9 (j := (2 : Int32)) hin9 (g := (mkF m 21 #[lR a, lI 1, lI x, lI 2, lI 2, lU, lU] [(.int 2), (.int 2), (.ref ud)])) rfl rfl (hb hby d22_21)
  have V9 : Arv Z h9 ud kud .int 5 [(.int dd0), (.int dd1), (.int 2), (.int dd3), (.int dd4)] (.int 0) := Arv.set Ar9 q9 S9 M9 H9 G9 rfl W9 2 rfl (Nat.le_of_ble_eq_true rfl)
  have N9 := Fr.snoc X9 N5 g_ud
  have Z9 : n0 ≤ h9.size := Nat.le_trans Z5 (Keep.of_wr W9).1
  have KK9 : Keep h0 h9 [up, ui, ud, uf, un] := (KK5).wr W9 (Or.inl (List.mem_of_getElem? (i := 2) rfl))
  refine Ds (B := T9.setTop (mkF m 22 #[lR a, lI 1, lI x, lI 2, lI 2, lU, lU] [])) (fun _ k => st9 _ k) ?_
  refine Ds (B := T9.setTop (mkF m 23 #[lR a, lI 1, lI x, lI 2, lI 2, lU, lU] [(.ref a)])) (fun _ k => XS.aloadN X9.here hx rfl (hb hby d22_22) rfl rfl k) ?_
  have c12 := (Fld.other W9 (Fld.other W5 (Fld.other W2 F_firstChildren (Or.inl ne_a_up)) (Or.inl ne_a_ui)) (Or.inl ne_a_ud))
  obtain ⟨T11, X11, e11, st11⟩ := getF X9 hx hZ hown (host := "") (Or.inl (hw _ mm126)) Via.refl e9 c12 (g := (mkF m 23 #[lR a, lI 1, lI x, lI 2, lI 2, lU, lU] [(.ref a)])) rfl rfl (hb hby d22_23)
  refine Ds (B := T11.setTop (mkF m 26 #[lR a, lI 1, lI x, lI 2, lI 2, lU, lU] [(.ref uf)])) (fun _ k => st11 _ k) ?_
  refine Ds (B := T11.setTop (mkF m 28 #[lR a, lI 1, lI x, lI 2, lI 2, lU, lU] [(.int (-1)), (.int 2), (.ref uf)])) (fun _ k => XS.iloadN X11.here hx rfl (hb hby d22_26) rfl (XS.iconst X11.here hx rfl (hb hby d22_27) k)) ?_
  have c14 := (((V_firstChildren.other W2 (Ne.symm ne_up_uf)).other W5 (Ne.symm ne_ui_uf)).other W9 (Ne.symm ne_ud_uf))
  obtain ⟨cl13, Ar13, q13, S13, M13, H13, G13⟩ := id c14
  have hin13 : ¬ ((2 : Int32) < 0 ∨ cl13.slots.size ≤ ((2 : Int32)).toNatClampNeg) := inb_of S13 ⟨by decide, by decide⟩
  obtain ⟨T13, h13, X13, e13, W13, st13⟩ := stI X11 hx hZ e11 Ar13 (j := (2 : Int32)) hin13 (g := (mkF m 28 #[lR a, lI 1, lI x, lI 2, lI 2, lU, lU] [(.int (-1)), (.int 2), (.ref uf)])) rfl rfl (hb hby d22_28)
  have V13 : Arv Z h13 uf kuf .int 5 [(.int ff0), (.int (-1)), (.int (-1)), (.int ff3), (.int ff4)] (.int 0) := Arv.set Ar13 q13 S13 M13 H13 G13 rfl W13 2 rfl (Nat.le_of_ble_eq_true rfl)
  have N13 := Fr.snoc X13 N9 g_uf
  have Z13 : n0 ≤ h13.size := Nat.le_trans Z9 (Keep.of_wr W13).1
  have KK13 : Keep h0 h13 [up, ui, ud, uf, un] := (KK9).wr W13 (Or.inl (List.mem_of_getElem? (i := 3) rfl))
  refine Ds (B := T13.setTop (mkF m 29 #[lR a, lI 1, lI x, lI 2, lI 2, lU, lU] [])) (fun _ k => st13 _ k) ?_
  refine Ds (B := T13.setTop (mkF m 33 #[lR a, lI 1, lI x, lI 2, lI 2, lI (-1), lU] [(.ref a)])) (fun _ k => XS.iconst X13.here hx rfl (hb hby d22_29) (XS.istore X13.here hx rfl (hb hby d22_30) rfl (l' := #[lR a, lI 1, lI x, lI 2, lI 2, lI (-1), lU]) rfl (XS.aloadN X13.here hx rfl (hb hby d22_32) rfl rfl k))) ?_
  have c16 := (Fld.other W13 c12 (Or.inl ne_a_uf))
  obtain ⟨T15, X15, e15, st15⟩ := getF X13 hx hZ hown (host := "") (Or.inl (hw _ mm126)) Via.refl e13 c16 (g := (mkF m 33 #[lR a, lI 1, lI x, lI 2, lI 2, lI (-1), lU] [(.ref a)])) rfl rfl (hb hby d22_33)
  refine Ds (B := T15.setTop (mkF m 36 #[lR a, lI 1, lI x, lI 2, lI 2, lI (-1), lU] [(.ref uf)])) (fun _ k => st15 _ k) ?_
  refine Ds (B := T15.setTop (mkF m 37 #[lR a, lI 1, lI x, lI 2, lI 2, lI (-1), lU] [(.int 1), (.ref uf)])) (fun _ k => XS.iloadN X15.here hx rfl (hb hby d22_36) rfl k) ?_
  obtain ⟨cl17, Ar17, q17, S17, M17, H17, G17⟩ := id V13
  have hin17 : ¬ ((1 : Int32) < 0 ∨ cl17.slots.size ≤ ((1 : Int32)).toNatClampNeg) := inb_of S17 ⟨by decide, by decide⟩
  have hat17 : cl17.slots[((1 : Int32)).toNatClampNeg]? = some (.int (-1)) := Has.at H17 hin17 rfl
  refine Ds (B := T15.setTop (mkF m 38 #[lR a, lI 1, lI x, lI 2, lI 2, lI (-1), lU] [(.int (-1))])) (fun _ k => X15.iaload hx (j := (1 : Int32)) (v := (.int (-1))) (by rw [e15]; exact Ar17.1) (State.isArrayOf_alike hZ.alike Ar17.2.1) Ar17.2.2 hin17 hat17 (g := (mkF m 37 #[lR a, lI 1, lI x, lI 2, lI 2, lI (-1), lU] [(.int 1), (.ref uf)])) rfl rfl (hb hby d22_37) _ k) ?_
  refine Ds (B := T15.setTop (mkF m 74 #[lR a, lI 1, lI x, lI 2, lI 2, lI (-1), lI (-1)] [(.ref a)])) (fun _ k => XS.istore X15.here hx rfl (hb hby d22_38) rfl (l' := #[lR a, lI 1, lI x, lI 2, lI 2, lI (-1), lI (-1)]) rfl (XS.iload X15.here hx rfl (hb hby d22_40) rfl (XS.iconst X15.here hx rfl (hb hby d22_42) (XS.icmpYes X15.here hx rfl (pc0 := 43) (pc' := 73) rfl (hb hby d22_43) rfl (teq (rfl : (-1 : Int32) = (-1 : Int32))).1 (by decide) (by decide) (XS.aloadN X15.here hx rfl (hb hby d22_73) rfl rfl k))))) ?_
  have c19 := (Fld.other W13 (Fld.other W9 (Fld.other W5 (Fld.other W2 F_nextSiblings (Or.inl ne_a_up)) (Or.inl ne_a_ui)) (Or.inl ne_a_ud)) (Or.inl ne_a_uf))
  obtain ⟨T18, X18, e18, st18⟩ := getF X15 hx hZ hown (host := "") (Or.inl (hw _ mm128)) Via.refl e15 c19 (g := (mkF m 74 #[lR a, lI 1, lI x, lI 2, lI 2, lI (-1), lI (-1)] [(.ref a)])) rfl rfl (hb hby d22_74)
  refine Ds (B := T18.setTop (mkF m 77 #[lR a, lI 1, lI x, lI 2, lI 2, lI (-1), lI (-1)] [(.ref un)])) (fun _ k => st18 _ k) ?_
  refine Ds (B := T18.setTop (mkF m 80 #[lR a, lI 1, lI x, lI 2, lI 2, lI (-1), lI (-1)] [(.int (-1)), (.int 2), (.ref un)])) (fun _ k => XS.iloadN X18.here hx rfl (hb hby d22_77) rfl (XS.iload X18.here hx rfl (hb hby d22_78) rfl k)) ?_
  have c21 := ((((V_nextSiblings.other W2 (Ne.symm ne_up_un)).other W5 (Ne.symm ne_ui_un)).other W9 (Ne.symm ne_ud_un)).other W13 (Ne.symm ne_uf_un))
  obtain ⟨cl20, Ar20, q20, S20, M20, H20, G20⟩ := id c21
  have hin20 : ¬ ((2 : Int32) < 0 ∨ cl20.slots.size ≤ ((2 : Int32)).toNatClampNeg) := inb_of S20 ⟨by decide, by decide⟩
  obtain ⟨T20, h20, X20, e20, W20, st20⟩ := stI X18 hx hZ e18 Ar20 (j := (2 : Int32)) hin20 (g := (mkF m 80 #[lR a, lI 1, lI x, lI 2, lI 2, lI (-1), lI (-1)] [(.int (-1)), (.int 2), (.ref un)])) rfl rfl (hb hby d22_80)
  have V20 : Arv Z h20 un kun .int 5 [(.int nn0), (.int nn1), (.int (-1)), (.int nn3), (.int nn4)] (.int 0) := Arv.set Ar20 q20 S20 M20 H20 G20 rfl W20 2 rfl (Nat.le_of_ble_eq_true rfl)
  have N20 := Fr.snoc X20 N13 g_un
  have Z20 : n0 ≤ h20.size := Nat.le_trans Z13 (Keep.of_wr W20).1
  have KK20 : Keep h0 h20 [up, ui, ud, uf, un] := (KK13).wr W20 (Or.inl (List.mem_of_getElem? (i := 4) rfl))
  refine Ds (B := T20.setTop (mkF m 81 #[lR a, lI 1, lI x, lI 2, lI 2, lI (-1), lI (-1)] [])) (fun _ k => st20 _ k) ?_
  refine Ds (B := T20.setTop (mkF m 88 #[lR a, lI 1, lI x, lI 2, lI 2, lI (-1), lI (-1)] [(.ref a)])) (fun _ k => XS.iload X20.here hx rfl (hb hby d22_81) rfl (XS.iconst X20.here hx rfl (hb hby d22_83) (XS.icmpNo X20.here hx rfl (hb hby d22_84) rfl (teq (rfl : (-1 : Int32) = (-1 : Int32))).2 (XS.aloadN X20.here hx rfl (hb hby d22_87) rfl rfl k)))) ?_
  have c23 := (Fld.other W20 c16 (Or.inl ne_a_un))
  obtain ⟨T22, X22, e22, st22⟩ := getF X20 hx hZ hown (host := "") (Or.inl (hw _ mm126)) Via.refl e20 c23 (g := (mkF m 88 #[lR a, lI 1, lI x, lI 2, lI 2, lI (-1), lI (-1)] [(.ref a)])) rfl rfl (hb hby d22_88)
  refine Ds (B := T22.setTop (mkF m 91 #[lR a, lI 1, lI x, lI 2, lI 2, lI (-1), lI (-1)] [(.ref uf)])) (fun _ k => st22 _ k) ?_
  refine Ds (B := T22.setTop (mkF m 93 #[lR a, lI 1, lI x, lI 2, lI 2, lI (-1), lI (-1)] [(.int 2), (.int 1), (.ref uf)])) (fun _ k => XS.iloadN X22.here hx rfl (hb hby d22_91) rfl (XS.iloadN X22.here hx rfl (hb hby d22_92) rfl k)) ?_
  have c25 := (V13.other W20 ne_uf_un)
  obtain ⟨cl24, Ar24, q24, S24, M24, H24, G24⟩ := id c25
  have hin24 : ¬ ((1 : Int32) < 0 ∨ cl24.slots.size ≤ ((1 : Int32)).toNatClampNeg) := inb_of S24 ⟨by decide, by decide⟩
  obtain ⟨T24, h24, X24, e24, W24, st24⟩ := stI X22 hx hZ e22 Ar24 (j := (1 : Int32)) hin24 (g := (mkF m 93 #[lR a, lI 1, lI x, lI 2, lI 2, lI (-1), lI (-1)] [(.int 2), (.int 1), (.ref uf)])) rfl rfl (hb hby d22_93)
  have V24 : Arv Z h24 uf kuf .int 5 [(.int ff0), (.int 2), (.int (-1)), (.int ff3), (.int ff4)] (.int 0) := Arv.set Ar24 q24 S24 M24 H24 G24 rfl W24 1 rfl (Nat.le_of_ble_eq_true rfl)
  have N24 := Fr.snoc X24 N20 g_uf
  have Z24 : n0 ≤ h24.size := Nat.le_trans Z20 (Keep.of_wr W24).1
  have KK24 : Keep h0 h24 [up, ui, ud, uf, un] := (KK20).wr W24 (Or.inl (List.mem_of_getElem? (i := 3) rfl))
  refine Ds (B := T24.setTop (mkF m 94 #[lR a, lI 1, lI x, lI 2, lI 2, lI (-1), lI (-1)] [])) (fun _ k => st24 _ k) ?_
  refine Ds (B := T24.setTop (mkF m 105 #[lR a, lI 1, lI x, lI 2, lI 2, lI (-1), lI (-1)] [])) (fun _ k => XS.goto X24.here hx rfl (pc0 := 94) (pc' := 105) rfl (hb hby d22_94) (by decide) (by decide) k) ?_
  obtain ⟨fs, hr, hrun, hended, hW, hsame⟩ := X24.leave (v := none) (hlocks := hlk) (fun _ => rfl)
  have c27 := (((((V2.other W5 ne_up_ui).other W9 ne_up_ud).other W13 ne_up_uf).other W20 ne_up_un).other W24 ne_up_uf)
  have c28 := ((((V5.other W9 ne_ui_ud).other W13 ne_ui_uf).other W20 ne_ui_un).other W24 ne_ui_uf)
  have c29 := (((V9.other W13 ne_ud_uf).other W20 ne_ud_un).other W24 ne_ud_uf)
  have c30 := (V20.other W24 (Ne.symm ne_uf_un))
  refine Done.fin (X24.returnOut hx Bd.returns (hb hby d22_105) hr) hrun hended ⟨_, _, rfl, ?_, ⟨_, rfl⟩, hW, hsame.mono (by decide) (by decide)⟩
  show QrmLK_5 Z a x up kup ui kui ud kud uf kuf un kun pp0 pp1 pp2 pp3 pp4 ii0 ii1 ii2 ii3 ii4 dd0 dd1 dd2 dd3 dd4 ff0 ff2 ff3 ff4 nn0 nn1 nn2 nn3 nn4 h0 n0 _ T24.heap _
  rw [e24]
  exact ⟨rfl, N24, KK24, ⟨c27, c28, c29, V24, c30⟩⟩
theorem ef_rmLK_6 (m : MethodId) (a : Addr) (x : Int32) : entryFrame m #[(.ref a), (.int 0), (.int x), (.int 3), (.int 1)] 7 = mkF m 0 #[lR a, lI 0, lI x, lI 3, lI 1, lU, lU] [] := by first | (simp [entryFrame, mkF, argsToLocals, Value.category]; done) | rfl
def QrmLK_6 (Z : State) (a : Addr) (x : Int32) (up : Addr) (kup : ClassId) (ui : Addr) (kui : ClassId) (ud : Addr) (kud : ClassId) (uf : Addr) (kuf : ClassId) (un : Addr) (kun : ClassId) (pp0 : Int32) (pp1 : Int32) (pp2 : Int32) (pp3 : Int32) (pp4 : Int32) (ii0 : Int32) (ii1 : Int32) (ii2 : Int32) (ii3 : Int32) (ii4 : Int32) (dd0 : Int32) (dd1 : Int32) (dd2 : Int32) (dd3 : Int32) (dd4 : Int32) (ff1 : Int32) (ff2 : Int32) (ff3 : Int32) (ff4 : Int32) (nn0 : Int32) (nn3 : Int32) (nn4 : Int32) (h0 : Heap) (n0 : Nat) (v : Option Value) (h : Heap) (L : List Loc) : Prop := v = none ∧ Fr n0 L ∧ Keep h0 h [up, ui, ud, uf, un] ∧ (¬ ii2 < x → (Arv Z h up kup .int 5 [(.int pp0), (.int pp1), (.int pp2), (.int 0), (.int pp4)] (.int 0) ∧ Arv Z h ui kui .int 5 [(.int ii0), (.int ii1), (.int ii2), (.int x), (.int ii4)] (.int 0) ∧ Arv Z h ud kud .int 5 [(.int dd0), (.int dd1), (.int dd2), (.int 1), (.int dd4)] (.int 0) ∧ Arv Z h uf kuf .int 5 [(.int 3), (.int ff1), (.int ff2), (.int (-1)), (.int ff4)] (.int 0) ∧ Arv Z h un kun .int 5 [(.int nn0), (.int (-1)), (.int 1), (.int 2), (.int nn4)] (.int 0))) ∧ (ii2 < x → ¬ ii1 < x → (Arv Z h up kup .int 5 [(.int pp0), (.int pp1), (.int pp2), (.int 0), (.int pp4)] (.int 0) ∧ Arv Z h ui kui .int 5 [(.int ii0), (.int ii1), (.int ii2), (.int x), (.int ii4)] (.int 0) ∧ Arv Z h ud kud .int 5 [(.int dd0), (.int dd1), (.int dd2), (.int 1), (.int dd4)] (.int 0) ∧ Arv Z h uf kuf .int 5 [(.int 2), (.int ff1), (.int ff2), (.int (-1)), (.int ff4)] (.int 0) ∧ Arv Z h un kun .int 5 [(.int nn0), (.int (-1)), (.int 3), (.int 1), (.int nn4)] (.int 0))) ∧ (ii2 < x → ii1 < x → (Arv Z h up kup .int 5 [(.int pp0), (.int pp1), (.int pp2), (.int 0), (.int pp4)] (.int 0) ∧ Arv Z h ui kui .int 5 [(.int ii0), (.int ii1), (.int ii2), (.int x), (.int ii4)] (.int 0) ∧ Arv Z h ud kud .int 5 [(.int dd0), (.int dd1), (.int dd2), (.int 1), (.int dd4)] (.int 0) ∧ Arv Z h uf kuf .int 5 [(.int 2), (.int ff1), (.int ff2), (.int (-1)), (.int ff4)] (.int 0) ∧ Arv Z h un kun .int 5 [(.int nn0), (.int 3), (.int 1), (.int (-1)), (.int nn4)] (.int 0)))
def PrmLK_6 (s : State) (Z : State) (a : Addr) (x : Int32) (up : Addr) (kup : ClassId) (ui : Addr) (kui : ClassId) (ud : Addr) (kud : ClassId) (uf : Addr) (kuf : ClassId) (un : Addr) (kun : ClassId) (pp0 : Int32) (pp1 : Int32) (pp2 : Int32) (pp3 : Int32) (pp4 : Int32) (ii0 : Int32) (ii1 : Int32) (ii2 : Int32) (ii3 : Int32) (ii4 : Int32) (dd0 : Int32) (dd1 : Int32) (dd2 : Int32) (dd3 : Int32) (dd4 : Int32) (ff1 : Int32) (ff2 : Int32) (ff3 : Int32) (ff4 : Int32) (nn0 : Int32) (nn3 : Int32) (nn4 : Int32) (h0 : Heap) (n0 : Nat) : State → Outcome → Prop := fun U' o => ∃ v L, o = .returned v ∧ QrmLK_6 Z a x up kup ui kui ud kud uf kuf un kun pp0 pp1 pp2 pp3 pp4 ii0 ii1 ii2 ii3 ii4 dd0 dd1 dd2 dd3 dd4 ff1 ff2 ff3 ff4 nn0 nn3 nn4 h0 n0 v U'.heap L ∧ FrameEnd s o U' L ({ frames := 0, cells := 0, slots := 0, locals := 0 } : Room).cells ({ frames := 0, cells := 0, slots := 0, locals := 0 } : Room).slots
set_option maxRecDepth 65536 in
set_option maxHeartbeats 40000000 in
theorem rmLK_6 (l : Launch) (Z : State) (a0 : Array Value) (hw : ∀ d ∈ tables_1, d.before a0 Z = true) (ws : List Jvm.Cond) (a : Addr) (x : Int32) (up : Addr) (kup : ClassId) (ui : Addr) (kui : ClassId) (ud : Addr) (kud : ClassId) (uf : Addr) (kuf : ClassId) (un : Addr) (kun : ClassId) (pp0 : Int32) (pp1 : Int32) (pp2 : Int32) (pp3 : Int32) (pp4 : Int32) (ii0 : Int32) (ii1 : Int32) (ii2 : Int32) (ii3 : Int32) (ii4 : Int32) (dd0 : Int32) (dd1 : Int32) (dd2 : Int32) (dd3 : Int32) (dd4 : Int32) (ff1 : Int32) (ff2 : Int32) (ff3 : Int32) (ff4 : Int32) (nn0 : Int32) (nn3 : Int32) (nn4 : Int32) (h0 : Heap) (n0 : Nat) (Z0 : n0 ≤ h0.size) (F_parents : Fld Z h0 a "com/example/percurso/percurso/suite/PrefixTree" "parents" "[I" (.ref up)) (F_inputs : Fld Z h0 a "com/example/percurso/percurso/suite/PrefixTree" "inputs" "[I" (.ref ui)) (F_depths : Fld Z h0 a "com/example/percurso/percurso/suite/PrefixTree" "depths" "[I" (.ref ud)) (F_firstChildren : Fld Z h0 a "com/example/percurso/percurso/suite/PrefixTree" "firstChildren" "[I" (.ref uf)) (F_nextSiblings : Fld Z h0 a "com/example/percurso/percurso/suite/PrefixTree" "nextSiblings" "[I" (.ref un)) (V_parents : Arv Z h0 up kup .int 5 [(.int pp0), (.int pp1), (.int pp2), (.int pp3), (.int pp4)] (.int 0)) (V_inputs : Arv Z h0 ui kui .int 5 [(.int ii0), (.int ii1), (.int ii2), (.int ii3), (.int ii4)] (.int 0)) (V_depths : Arv Z h0 ud kud .int 5 [(.int dd0), (.int dd1), (.int dd2), (.int dd3), (.int dd4)] (.int 0)) (V_firstChildren : Arv Z h0 uf kuf .int 5 [(.int 2), (.int ff1), (.int ff2), (.int ff3), (.int ff4)] (.int 0)) (V_nextSiblings : Arv Z h0 un kun .int 5 [(.int nn0), (.int (-1)), (.int 1), (.int nn3), (.int nn4)] (.int 0)) (g_up : n0 ≤ up) (g_ui : n0 ≤ ui) (g_ud : n0 ≤ ud) (g_uf : n0 ≤ uf) (g_un : n0 ≤ un) (ne_up_ui : up ≠ ui) (ne_up_ud : up ≠ ud) (ne_up_uf : up ≠ uf) (ne_up_un : up ≠ un) (ne_ui_ud : ui ≠ ud) (ne_ui_uf : ui ≠ uf) (ne_ui_un : ui ≠ un) (ne_ud_uf : ud ≠ uf) (ne_ud_un : ud ≠ un) (ne_uf_un : uf ≠ un) (ne_a_up : a ≠ up) (ne_a_ui : a ≠ ui) (ne_a_ud : a ≠ ud) (ne_a_uf : a ≠ uf) (ne_a_un : a ≠ un) :
    MetFree l (⟨"com/example/percurso/percurso/suite/PrefixTree", "link", "(IIII)V"⟩ : MethodName) (head1 (Jvm.Cond.code (⟨"com/example/percurso/percurso/suite/PrefixTree", "link", "(IIII)V"⟩ : MethodName) prog_191_method_2_code 7 none :: ws) ({ frames := 0, cells := 0, slots := 0, locals := 0 } : Room)) (fun aa U => aa = #[(.ref a), (.int 0), (.int x), (.int 3), (.int 1)] ∧ Z.Warmed39 U.vm ∧ U.heap = h0) (fun _ _ _ _ _ => True) (fun _ U o U' => ∃ v L, o = .returned v ∧ QrmLK_6 Z a x up kup ui kui ud kud uf kuf un kun pp0 pp1 pp2 pp3 pp4 ii0 ii1 ii2 ii3 ii4 dd0 dd1 dd2 dd3 dd4 ff1 ff2 ff3 ff4 nn0 nn3 nn4 h0 n0 v U'.heap L ∧ FrameEnd U o U' L ({ frames := 0, cells := 0, slots := 0, locals := 0 } : Room).cells ({ frames := 0, cells := 0, slots := 0, locals := 0 } : Room).slots) := by
  refine MetFree.of_bodySF (plainFor_of_name pn_6) hisR ?_
  intro p e s m args below meth c s₁ Bd hml0 hP hK
  obtain ⟨rfl, hZ, hh⟩ := hP
  have hx := Bd.exec
  have hlk : meth.locks = false := by first | exact BodyLoose.notSynchronized Bd | exact Body.notSynchronized Bd
  have hby := Bd.bytes
  have hml : c.maxLocals = 7 := hml0
  have hown : s.vm.findClass "com/example/percurso/percurso/suite/PrefixTree" = some m.cls := findClass_of_methodNamed Bd.named
  have hnm := (name_of_methodNamed Bd.named Bd.method).1
  have X0 : Stand p l e ({ frames := 0, cells := 0, slots := 0, locals := 0 } : Room) s m #[(.ref a), (.int 0), (.int x), (.int 3), (.int 1)] below meth c s₁ [] 0 0 := Stand.of_body Bd
  have e0 : s₁.heap = h0 := by rw [← hh, Bd.state]; rfl
  have N0 := Fr.nil n0
  show Done p e below (PrmLK_6 s Z a x up kup ui kui ud kud uf kuf un kun pp0 pp1 pp2 pp3 pp4 ii0 ii1 ii2 ii3 ii4 dd0 dd1 dd2 dd3 dd4 ff1 ff2 ff3 ff4 nn0 nn3 nn4 h0 n0) (s₁.setTop (entryFrame m #[(.ref a), (.int 0), (.int x), (.int 3), (.int 1)] 7))
  refine Ds (B := s₁.setTop (mkF m 0 #[lR a, lI 0, lI x, lI 3, lI 1, lU, lU] [])) (fun _ k => castTop (ef_rmLK_6 m a x) k) ?_
  refine Ds (B := s₁.setTop (mkF m 1 #[lR a, lI 0, lI x, lI 3, lI 1, lU, lU] [(.ref a)])) (fun _ k => XS.aloadN X0.here hx rfl (hb hby d22_0) rfl rfl k) ?_
  obtain ⟨T1, X1, e1, st1⟩ := getF X0 hx hZ hown (host := "") (Or.inl (hw _ mm120)) Via.refl e0 F_parents (g := (mkF m 1 #[lR a, lI 0, lI x, lI 3, lI 1, lU, lU] [(.ref a)])) rfl rfl (hb hby d22_1)
  refine Ds (B := T1.setTop (mkF m 4 #[lR a, lI 0, lI x, lI 3, lI 1, lU, lU] [(.ref up)])) (fun _ k => st1 _ k) ?_
  refine Ds (B := T1.setTop (mkF m 6 #[lR a, lI 0, lI x, lI 3, lI 1, lU, lU] [(.int 0), (.int 3), (.ref up)])) (fun _ k => XS.iloadN X1.here hx rfl (hb hby d22_4) rfl (XS.iloadN X1.here hx rfl (hb hby d22_5) rfl k)) ?_
  obtain ⟨cl2, Ar2, q2, S2, M2, H2, G2⟩ := id V_parents
  have hin2 : ¬ ((3 : Int32) < 0 ∨ cl2.slots.size ≤ ((3 : Int32)).toNatClampNeg) := inb_of S2 ⟨by decide, by decide⟩
  obtain ⟨T2, h2, X2, e2, W2, st2⟩ := stI X1 hx hZ e1 Ar2 (j := (3 : Int32)) hin2 (g := (mkF m 6 #[lR a, lI 0, lI x, lI 3, lI 1, lU, lU] [(.int 0), (.int 3), (.ref up)])) rfl rfl (hb hby d22_6)
  have V2 : Arv Z h2 up kup .int 5 [(.int pp0), (.int pp1), (.int pp2), (.int 0), (.int pp4)] (.int 0) := Arv.set Ar2 q2 S2 M2 H2 G2 rfl W2 3 rfl (Nat.le_of_ble_eq_true rfl)
  have N2 := Fr.snoc X2 N0 g_up
  have Z2 : n0 ≤ h2.size := Nat.le_trans Z0 (Keep.of_wr W2).1
  have KK2 : Keep h0 h2 [up, ui, ud, uf, un] := ((Keep.refl h0 [up, ui, ud, uf, un])).wr W2 (Or.inl (List.mem_of_getElem? (i := 0) rfl))
  refine Ds (B := T2.setTop (mkF m 7 #[lR a, lI 0, lI x, lI 3, lI 1, lU, lU] [])) (fun _ k => st2 _ k) ?_
  refine Ds (B := T2.setTop (mkF m 8 #[lR a, lI 0, lI x, lI 3, lI 1, lU, lU] [(.ref a)])) (fun _ k => XS.aloadN X2.here hx rfl (hb hby d22_7) rfl rfl k) ?_
  have c4 := (Fld.other W2 F_inputs (Or.inl ne_a_up))
  obtain ⟨T3, X3, e3, st3⟩ := getF X2 hx hZ hown (host := "") (Or.inl (hw _ mm122)) Via.refl e2 c4 (g := (mkF m 8 #[lR a, lI 0, lI x, lI 3, lI 1, lU, lU] [(.ref a)])) rfl rfl (hb hby d22_8)
  refine Ds (B := T3.setTop (mkF m 11 #[lR a, lI 0, lI x, lI 3, lI 1, lU, lU] [(.ref ui)])) (fun _ k => st3 _ k) ?_
  refine Ds (B := T3.setTop (mkF m 13 #[lR a, lI 0, lI x, lI 3, lI 1, lU, lU] [(.int x), (.int 3), (.ref ui)])) (fun _ k => XS.iloadN X3.here hx rfl (hb hby d22_11) rfl (XS.iloadN X3.here hx rfl (hb hby d22_12) rfl k)) ?_
  have c6 := (V_inputs.other W2 (Ne.symm ne_up_ui))
  obtain ⟨cl5, Ar5, q5, S5, M5, H5, G5⟩ := id c6
  have hin5 : ¬ ((3 : Int32) < 0 ∨ cl5.slots.size ≤ ((3 : Int32)).toNatClampNeg) := inb_of S5 ⟨by decide, by decide⟩
  obtain ⟨T5, h5, X5, e5, W5, st5⟩ := stI X3 hx hZ e3 Ar5 (j := (3 : Int32)) hin5 (g := (mkF m 13 #[lR a, lI 0, lI x, lI 3, lI 1, lU, lU] [(.int x), (.int 3), (.ref ui)])) rfl rfl (hb hby d22_13)
  have V5 : Arv Z h5 ui kui .int 5 [(.int ii0), (.int ii1), (.int ii2), (.int x), (.int ii4)] (.int 0) := Arv.set Ar5 q5 S5 M5 H5 G5 rfl W5 3 rfl (Nat.le_of_ble_eq_true rfl)
  have N5 := Fr.snoc X5 N2 g_ui
  have Z5 : n0 ≤ h5.size := Nat.le_trans Z2 (Keep.of_wr W5).1
  have KK5 : Keep h0 h5 [up, ui, ud, uf, un] := (KK2).wr W5 (Or.inl (List.mem_of_getElem? (i := 1) rfl))
  refine Ds (B := T5.setTop (mkF m 14 #[lR a, lI 0, lI x, lI 3, lI 1, lU, lU] [])) (fun _ k => st5 _ k) ?_
  refine Ds (B := T5.setTop (mkF m 15 #[lR a, lI 0, lI x, lI 3, lI 1, lU, lU] [(.ref a)])) (fun _ k => XS.aloadN X5.here hx rfl (hb hby d22_14) rfl rfl k) ?_
  have c8 := (Fld.other W5 (Fld.other W2 F_depths (Or.inl ne_a_up)) (Or.inl ne_a_ui))
  obtain ⟨T7, X7, e7, st7⟩ := getF X5 hx hZ hown (host := "") (Or.inl (hw _ mm124)) Via.refl e5 c8 (g := (mkF m 15 #[lR a, lI 0, lI x, lI 3, lI 1, lU, lU] [(.ref a)])) rfl rfl (hb hby d22_15)
  refine Ds (B := T7.setTop (mkF m 18 #[lR a, lI 0, lI x, lI 3, lI 1, lU, lU] [(.ref ud)])) (fun _ k => st7 _ k) ?_
  refine Ds (B := T7.setTop (mkF m 21 #[lR a, lI 0, lI x, lI 3, lI 1, lU, lU] [(.int 1), (.int 3), (.ref ud)])) (fun _ k => XS.iloadN X7.here hx rfl (hb hby d22_18) rfl (XS.iload X7.here hx rfl (hb hby d22_19) rfl k)) ?_
  have c10 := ((V_depths.other W2 (Ne.symm ne_up_ud)).other W5 (Ne.symm ne_ui_ud))
  obtain ⟨cl9, Ar9, q9, S9, M9, H9, G9⟩ := id c10
  have hin9 : ¬ ((3 : Int32) < 0 ∨ cl9.slots.size ≤ ((3 : Int32)).toNatClampNeg) := inb_of S9 ⟨by decide, by decide⟩
  obtain ⟨T9, h9, X9, e9, W9, st9⟩ := stI X7 hx hZ e7 Ar9 (j := (3 : Int32)) hin9 (g := (mkF m 21 #[lR a, lI 0, lI x, lI 3, lI 1, lU, lU] [(.int 1), (.int 3), (.ref ud)])) rfl rfl (hb hby d22_21)
  have V9 : Arv Z h9 ud kud .int 5 [(.int dd0), (.int dd1), (.int dd2), (.int 1), (.int dd4)] (.int 0) := Arv.set Ar9 q9 S9 M9 H9 G9 rfl W9 3 rfl (Nat.le_of_ble_eq_true rfl)
  have N9 := Fr.snoc X9 N5 g_ud
  have Z9 : n0 ≤ h9.size := Nat.le_trans Z5 (Keep.of_wr W9).1
  have KK9 : Keep h0 h9 [up, ui, ud, uf, un] := (KK5).wr W9 (Or.inl (List.mem_of_getElem? (i := 2) rfl))
  refine Ds (B := T9.setTop (mkF m 22 #[lR a, lI 0, lI x, lI 3, lI 1, lU, lU] [])) (fun _ k => st9 _ k) ?_
  refine Ds (B := T9.setTop (mkF m 23 #[lR a, lI 0, lI x, lI 3, lI 1, lU, lU] [(.ref a)])) (fun _ k => XS.aloadN X9.here hx rfl (hb hby d22_22) rfl rfl k) ?_
  have c12 := (Fld.other W9 (Fld.other W5 (Fld.other W2 F_firstChildren (Or.inl ne_a_up)) (Or.inl ne_a_ui)) (Or.inl ne_a_ud))
  obtain ⟨T11, X11, e11, st11⟩ := getF X9 hx hZ hown (host := "") (Or.inl (hw _ mm126)) Via.refl e9 c12 (g := (mkF m 23 #[lR a, lI 0, lI x, lI 3, lI 1, lU, lU] [(.ref a)])) rfl rfl (hb hby d22_23)
  refine Ds (B := T11.setTop (mkF m 26 #[lR a, lI 0, lI x, lI 3, lI 1, lU, lU] [(.ref uf)])) (fun _ k => st11 _ k) ?_
  refine Ds (B := T11.setTop (mkF m 28 #[lR a, lI 0, lI x, lI 3, lI 1, lU, lU] [(.int (-1)), (.int 3), (.ref uf)])) (fun _ k => XS.iloadN X11.here hx rfl (hb hby d22_26) rfl (XS.iconst X11.here hx rfl (hb hby d22_27) k)) ?_
  have c14 := (((V_firstChildren.other W2 (Ne.symm ne_up_uf)).other W5 (Ne.symm ne_ui_uf)).other W9 (Ne.symm ne_ud_uf))
  obtain ⟨cl13, Ar13, q13, S13, M13, H13, G13⟩ := id c14
  have hin13 : ¬ ((3 : Int32) < 0 ∨ cl13.slots.size ≤ ((3 : Int32)).toNatClampNeg) := inb_of S13 ⟨by decide, by decide⟩
  obtain ⟨T13, h13, X13, e13, W13, st13⟩ := stI X11 hx hZ e11 Ar13 (j := (3 : Int32)) hin13 (g := (mkF m 28 #[lR a, lI 0, lI x, lI 3, lI 1, lU, lU] [(.int (-1)), (.int 3), (.ref uf)])) rfl rfl (hb hby d22_28)
  have V13 : Arv Z h13 uf kuf .int 5 [(.int 2), (.int ff1), (.int ff2), (.int (-1)), (.int ff4)] (.int 0) := Arv.set Ar13 q13 S13 M13 H13 G13 rfl W13 3 rfl (Nat.le_of_ble_eq_true rfl)
  have N13 := Fr.snoc X13 N9 g_uf
  have Z13 : n0 ≤ h13.size := Nat.le_trans Z9 (Keep.of_wr W13).1
  have KK13 : Keep h0 h13 [up, ui, ud, uf, un] := (KK9).wr W13 (Or.inl (List.mem_of_getElem? (i := 3) rfl))
  refine Ds (B := T13.setTop (mkF m 29 #[lR a, lI 0, lI x, lI 3, lI 1, lU, lU] [])) (fun _ k => st13 _ k) ?_
  refine Ds (B := T13.setTop (mkF m 33 #[lR a, lI 0, lI x, lI 3, lI 1, lI (-1), lU] [(.ref a)])) (fun _ k => XS.iconst X13.here hx rfl (hb hby d22_29) (XS.istore X13.here hx rfl (hb hby d22_30) rfl (l' := #[lR a, lI 0, lI x, lI 3, lI 1, lI (-1), lU]) rfl (XS.aloadN X13.here hx rfl (hb hby d22_32) rfl rfl k))) ?_
  have c16 := (Fld.other W13 c12 (Or.inl ne_a_uf))
  obtain ⟨T15, X15, e15, st15⟩ := getF X13 hx hZ hown (host := "") (Or.inl (hw _ mm126)) Via.refl e13 c16 (g := (mkF m 33 #[lR a, lI 0, lI x, lI 3, lI 1, lI (-1), lU] [(.ref a)])) rfl rfl (hb hby d22_33)
  refine Ds (B := T15.setTop (mkF m 36 #[lR a, lI 0, lI x, lI 3, lI 1, lI (-1), lU] [(.ref uf)])) (fun _ k => st15 _ k) ?_
  refine Ds (B := T15.setTop (mkF m 37 #[lR a, lI 0, lI x, lI 3, lI 1, lI (-1), lU] [(.int 0), (.ref uf)])) (fun _ k => XS.iloadN X15.here hx rfl (hb hby d22_36) rfl k) ?_
  obtain ⟨cl17, Ar17, q17, S17, M17, H17, G17⟩ := id V13
  have hin17 : ¬ ((0 : Int32) < 0 ∨ cl17.slots.size ≤ ((0 : Int32)).toNatClampNeg) := inb_of S17 ⟨by decide, by decide⟩
  have hat17 : cl17.slots[((0 : Int32)).toNatClampNeg]? = some (.int 2) := Has.at H17 hin17 rfl
  refine Ds (B := T15.setTop (mkF m 38 #[lR a, lI 0, lI x, lI 3, lI 1, lI (-1), lU] [(.int 2)])) (fun _ k => X15.iaload hx (j := (0 : Int32)) (v := (.int 2)) (by rw [e15]; exact Ar17.1) (State.isArrayOf_alike hZ.alike Ar17.2.1) Ar17.2.2 hin17 hat17 (g := (mkF m 37 #[lR a, lI 0, lI x, lI 3, lI 1, lI (-1), lU] [(.int 0), (.ref uf)])) rfl rfl (hb hby d22_37) _ k) ?_
  refine Ds (B := T15.setTop (mkF m 47 #[lR a, lI 0, lI x, lI 3, lI 1, lI (-1), lI 2] [(.ref a)])) (fun _ k => XS.istore X15.here hx rfl (hb hby d22_38) rfl (l' := #[lR a, lI 0, lI x, lI 3, lI 1, lI (-1), lI 2]) rfl (XS.iload X15.here hx rfl (hb hby d22_40) rfl (XS.iconst X15.here hx rfl (hb hby d22_42) (XS.icmpNo X15.here hx rfl (hb hby d22_43) rfl (feq (by decide : ¬ ((2 : Int32) = (-1 : Int32)))).1 (XS.aloadN X15.here hx rfl (hb hby d22_46) rfl rfl k))))) ?_
  have c19 := (Fld.other W13 (Fld.other W9 (Fld.other W5 c4 (Or.inl ne_a_ui)) (Or.inl ne_a_ud)) (Or.inl ne_a_uf))
  obtain ⟨T18, X18, e18, st18⟩ := getF X15 hx hZ hown (host := "") (Or.inl (hw _ mm122)) Via.refl e15 c19 (g := (mkF m 47 #[lR a, lI 0, lI x, lI 3, lI 1, lI (-1), lI 2] [(.ref a)])) rfl rfl (hb hby d22_47)
  refine Ds (B := T18.setTop (mkF m 50 #[lR a, lI 0, lI x, lI 3, lI 1, lI (-1), lI 2] [(.ref ui)])) (fun _ k => st18 _ k) ?_
  refine Ds (B := T18.setTop (mkF m 52 #[lR a, lI 0, lI x, lI 3, lI 1, lI (-1), lI 2] [(.int 2), (.ref ui)])) (fun _ k => XS.iload X18.here hx rfl (hb hby d22_50) rfl k) ?_
  have c21 := ((V5.other W9 ne_ui_ud).other W13 ne_ui_uf)
  obtain ⟨cl20, Ar20, q20, S20, M20, H20, G20⟩ := id c21
  have hin20 : ¬ ((2 : Int32) < 0 ∨ cl20.slots.size ≤ ((2 : Int32)).toNatClampNeg) := inb_of S20 ⟨by decide, by decide⟩
  have hat20 : cl20.slots[((2 : Int32)).toNatClampNeg]? = some (.int ii2) := Has.at H20 hin20 rfl
  refine Ds (B := T18.setTop (mkF m 53 #[lR a, lI 0, lI x, lI 3, lI 1, lI (-1), lI 2] [(.int ii2)])) (fun _ k => X18.iaload hx (j := (2 : Int32)) (v := (.int ii2)) (by rw [e18]; exact Ar20.1) (State.isArrayOf_alike hZ.alike Ar20.2.1) Ar20.2.2 hin20 hat20 (g := (mkF m 52 #[lR a, lI 0, lI x, lI 3, lI 1, lI (-1), lI 2] [(.int 2), (.ref ui)])) rfl rfl (hb hby d22_52) _ k) ?_
  refine Ds (B := T18.setTop (mkF m 54 #[lR a, lI 0, lI x, lI 3, lI 1, lI (-1), lI 2] [(.int x), (.int ii2)])) (fun _ k => XS.iloadN X18.here hx rfl (hb hby d22_53) rfl k) ?_
  by_cases hc54 : ii2 < x
  · refine Ds (B := T18.setTop (mkF m 62 #[lR a, lI 0, lI x, lI 3, lI 1, lI 2, lI 2] [(.ref a)])) (fun _ k => XS.icmpNo X18.here hx rfl (hb hby d22_54) rfl (tlt hc54).2.1 (XS.iload X18.here hx rfl (hb hby d22_57) rfl (XS.istore X18.here hx rfl (hb hby d22_59) rfl (l' := #[lR a, lI 0, lI x, lI 3, lI 1, lI 2, lI 2]) rfl (XS.aloadN X18.here hx rfl (hb hby d22_61) rfl rfl k)))) ?_
    have c23 := (Fld.other W13 (Fld.other W9 (Fld.other W5 (Fld.other W2 F_nextSiblings (Or.inl ne_a_up)) (Or.inl ne_a_ui)) (Or.inl ne_a_ud)) (Or.inl ne_a_uf))
    obtain ⟨T22, X22, e22, st22⟩ := getF X18 hx hZ hown (host := "") (Or.inl (hw _ mm128)) Via.refl e18 c23 (g := (mkF m 62 #[lR a, lI 0, lI x, lI 3, lI 1, lI 2, lI 2] [(.ref a)])) rfl rfl (hb hby d22_62)
    refine Ds (B := T22.setTop (mkF m 65 #[lR a, lI 0, lI x, lI 3, lI 1, lI 2, lI 2] [(.ref un)])) (fun _ k => st22 _ k) ?_
    refine Ds (B := T22.setTop (mkF m 67 #[lR a, lI 0, lI x, lI 3, lI 1, lI 2, lI 2] [(.int 2), (.ref un)])) (fun _ k => XS.iload X22.here hx rfl (hb hby d22_65) rfl k) ?_
    have c25 := ((((V_nextSiblings.other W2 (Ne.symm ne_up_un)).other W5 (Ne.symm ne_ui_un)).other W9 (Ne.symm ne_ud_un)).other W13 (Ne.symm ne_uf_un))
    obtain ⟨cl24, Ar24, q24, S24, M24, H24, G24⟩ := id c25
    have hin24 : ¬ ((2 : Int32) < 0 ∨ cl24.slots.size ≤ ((2 : Int32)).toNatClampNeg) := inb_of S24 ⟨by decide, by decide⟩
    have hat24 : cl24.slots[((2 : Int32)).toNatClampNeg]? = some (.int 1) := Has.at H24 hin24 rfl
    refine Ds (B := T22.setTop (mkF m 68 #[lR a, lI 0, lI x, lI 3, lI 1, lI 2, lI 2] [(.int 1)])) (fun _ k => X22.iaload hx (j := (2 : Int32)) (v := (.int 1)) (by rw [e22]; exact Ar24.1) (State.isArrayOf_alike hZ.alike Ar24.2.1) Ar24.2.2 hin24 hat24 (g := (mkF m 67 #[lR a, lI 0, lI x, lI 3, lI 1, lI 2, lI 2] [(.int 2), (.ref un)])) rfl rfl (hb hby d22_67) _ k) ?_
    refine Ds (B := T22.setTop (mkF m 47 #[lR a, lI 0, lI x, lI 3, lI 1, lI 2, lI 1] [(.ref a)])) (fun _ k => XS.istore X22.here hx rfl (hb hby d22_68) rfl (l' := #[lR a, lI 0, lI x, lI 3, lI 1, lI 2, lI 1]) rfl (XS.goto X22.here hx rfl (pc0 := 70) (pc' := 40) rfl (hb hby d22_70) (by decide) (by decide) (XS.iload X22.here hx rfl (hb hby d22_40) rfl (XS.iconst X22.here hx rfl (hb hby d22_42) (XS.icmpNo X22.here hx rfl (hb hby d22_43) rfl (feq (by decide : ¬ ((1 : Int32) = (-1 : Int32)))).1 (XS.aloadN X22.here hx rfl (hb hby d22_46) rfl rfl k)))))) ?_
    obtain ⟨T26, X26, e26, st26⟩ := getF X22 hx hZ hown (host := "") (Or.inl (hw _ mm122)) Via.refl e22 c19 (g := (mkF m 47 #[lR a, lI 0, lI x, lI 3, lI 1, lI 2, lI 1] [(.ref a)])) rfl rfl (hb hby d22_47)
    refine Ds (B := T26.setTop (mkF m 50 #[lR a, lI 0, lI x, lI 3, lI 1, lI 2, lI 1] [(.ref ui)])) (fun _ k => st26 _ k) ?_
    refine Ds (B := T26.setTop (mkF m 52 #[lR a, lI 0, lI x, lI 3, lI 1, lI 2, lI 1] [(.int 1), (.ref ui)])) (fun _ k => XS.iload X26.here hx rfl (hb hby d22_50) rfl k) ?_
    obtain ⟨cl27, Ar27, q27, S27, M27, H27, G27⟩ := id c21
    have hin27 : ¬ ((1 : Int32) < 0 ∨ cl27.slots.size ≤ ((1 : Int32)).toNatClampNeg) := inb_of S27 ⟨by decide, by decide⟩
    have hat27 : cl27.slots[((1 : Int32)).toNatClampNeg]? = some (.int ii1) := Has.at H27 hin27 rfl
    refine Ds (B := T26.setTop (mkF m 53 #[lR a, lI 0, lI x, lI 3, lI 1, lI 2, lI 1] [(.int ii1)])) (fun _ k => X26.iaload hx (j := (1 : Int32)) (v := (.int ii1)) (by rw [e26]; exact Ar27.1) (State.isArrayOf_alike hZ.alike Ar27.2.1) Ar27.2.2 hin27 hat27 (g := (mkF m 52 #[lR a, lI 0, lI x, lI 3, lI 1, lI 2, lI 1] [(.int 1), (.ref ui)])) rfl rfl (hb hby d22_52) _ k) ?_
    refine Ds (B := T26.setTop (mkF m 54 #[lR a, lI 0, lI x, lI 3, lI 1, lI 2, lI 1] [(.int x), (.int ii1)])) (fun _ k => XS.iloadN X26.here hx rfl (hb hby d22_53) rfl k) ?_
    by_cases hc54' : ii1 < x
    · refine Ds (B := T26.setTop (mkF m 62 #[lR a, lI 0, lI x, lI 3, lI 1, lI 1, lI 1] [(.ref a)])) (fun _ k => XS.icmpNo X26.here hx rfl (hb hby d22_54) rfl (tlt (hc54')).2.1 (XS.iload X26.here hx rfl (hb hby d22_57) rfl (XS.istore X26.here hx rfl (hb hby d22_59) rfl (l' := #[lR a, lI 0, lI x, lI 3, lI 1, lI 1, lI 1]) rfl (XS.aloadN X26.here hx rfl (hb hby d22_61) rfl rfl k)))) ?_
      obtain ⟨T28, X28, e28, st28⟩ := getF X26 hx hZ hown (host := "") (Or.inl (hw _ mm128)) Via.refl e26 c23 (g := (mkF m 62 #[lR a, lI 0, lI x, lI 3, lI 1, lI 1, lI 1] [(.ref a)])) rfl rfl (hb hby d22_62)
      refine Ds (B := T28.setTop (mkF m 65 #[lR a, lI 0, lI x, lI 3, lI 1, lI 1, lI 1] [(.ref un)])) (fun _ k => st28 _ k) ?_
      refine Ds (B := T28.setTop (mkF m 67 #[lR a, lI 0, lI x, lI 3, lI 1, lI 1, lI 1] [(.int 1), (.ref un)])) (fun _ k => XS.iload X28.here hx rfl (hb hby d22_65) rfl k) ?_
      obtain ⟨cl29, Ar29, q29, S29, M29, H29, G29⟩ := id c25
      have hin29 : ¬ ((1 : Int32) < 0 ∨ cl29.slots.size ≤ ((1 : Int32)).toNatClampNeg) := inb_of S29 ⟨by decide, by decide⟩
      have hat29 : cl29.slots[((1 : Int32)).toNatClampNeg]? = some (.int (-1)) := Has.at H29 hin29 rfl
      refine Ds (B := T28.setTop (mkF m 68 #[lR a, lI 0, lI x, lI 3, lI 1, lI 1, lI 1] [(.int (-1))])) (fun _ k => X28.iaload hx (j := (1 : Int32)) (v := (.int (-1))) (by rw [e28]; exact Ar29.1) (State.isArrayOf_alike hZ.alike Ar29.2.1) Ar29.2.2 hin29 hat29 (g := (mkF m 67 #[lR a, lI 0, lI x, lI 3, lI 1, lI 1, lI 1] [(.int 1), (.ref un)])) rfl rfl (hb hby d22_67) _ k) ?_
      refine Ds (B := T28.setTop (mkF m 74 #[lR a, lI 0, lI x, lI 3, lI 1, lI 1, lI (-1)] [(.ref a)])) (fun _ k => XS.istore X28.here hx rfl (hb hby d22_68) rfl (l' := #[lR a, lI 0, lI x, lI 3, lI 1, lI 1, lI (-1)]) rfl (XS.goto X28.here hx rfl (pc0 := 70) (pc' := 40) rfl (hb hby d22_70) (by decide) (by decide) (XS.iload X28.here hx rfl (hb hby d22_40) rfl (XS.iconst X28.here hx rfl (hb hby d22_42) (XS.icmpYes X28.here hx rfl (pc0 := 43) (pc' := 73) rfl (hb hby d22_43) rfl (teq (rfl : (-1 : Int32) = (-1 : Int32))).1 (by decide) (by decide) (XS.aloadN X28.here hx rfl (hb hby d22_73) rfl rfl k)))))) ?_
      obtain ⟨T30, X30, e30, st30⟩ := getF X28 hx hZ hown (host := "") (Or.inl (hw _ mm128)) Via.refl e28 c23 (g := (mkF m 74 #[lR a, lI 0, lI x, lI 3, lI 1, lI 1, lI (-1)] [(.ref a)])) rfl rfl (hb hby d22_74)
      refine Ds (B := T30.setTop (mkF m 77 #[lR a, lI 0, lI x, lI 3, lI 1, lI 1, lI (-1)] [(.ref un)])) (fun _ k => st30 _ k) ?_
      refine Ds (B := T30.setTop (mkF m 80 #[lR a, lI 0, lI x, lI 3, lI 1, lI 1, lI (-1)] [(.int (-1)), (.int 3), (.ref un)])) (fun _ k => XS.iloadN X30.here hx rfl (hb hby d22_77) rfl (XS.iload X30.here hx rfl (hb hby d22_78) rfl k)) ?_
      obtain ⟨cl31, Ar31, q31, S31, M31, H31, G31⟩ := id c25
      have hin31 : ¬ ((3 : Int32) < 0 ∨ cl31.slots.size ≤ ((3 : Int32)).toNatClampNeg) := inb_of S31 ⟨by decide, by decide⟩
      obtain ⟨T31, h31, X31, e31, W31, st31⟩ := stI X30 hx hZ e30 Ar31 (j := (3 : Int32)) hin31 (g := (mkF m 80 #[lR a, lI 0, lI x, lI 3, lI 1, lI 1, lI (-1)] [(.int (-1)), (.int 3), (.ref un)])) rfl rfl (hb hby d22_80)
      have V31 : Arv Z h31 un kun .int 5 [(.int nn0), (.int (-1)), (.int 1), (.int (-1)), (.int nn4)] (.int 0) := Arv.set Ar31 q31 S31 M31 H31 G31 rfl W31 3 rfl (Nat.le_of_ble_eq_true rfl)
      have N31 := Fr.snoc X31 N13 g_un
      have Z31 : n0 ≤ h31.size := Nat.le_trans Z13 (Keep.of_wr W31).1
      have KK31 : Keep h0 h31 [up, ui, ud, uf, un] := (KK13).wr W31 (Or.inl (List.mem_of_getElem? (i := 4) rfl))
      refine Ds (B := T31.setTop (mkF m 81 #[lR a, lI 0, lI x, lI 3, lI 1, lI 1, lI (-1)] [])) (fun _ k => st31 _ k) ?_
      refine Ds (B := T31.setTop (mkF m 98 #[lR a, lI 0, lI x, lI 3, lI 1, lI 1, lI (-1)] [(.ref a)])) (fun _ k => XS.iload X31.here hx rfl (hb hby d22_81) rfl (XS.iconst X31.here hx rfl (hb hby d22_83) (XS.icmpYes X31.here hx rfl (pc0 := 84) (pc' := 97) rfl (hb hby d22_84) rfl (feq (by decide : ¬ ((1 : Int32) = (-1 : Int32)))).2 (by decide) (by decide) (XS.aloadN X31.here hx rfl (hb hby d22_97) rfl rfl k)))) ?_
      have c33 := (Fld.other W31 c23 (Or.inl ne_a_un))
      obtain ⟨T32, X32, e32, st32⟩ := getF X31 hx hZ hown (host := "") (Or.inl (hw _ mm128)) Via.refl e31 c33 (g := (mkF m 98 #[lR a, lI 0, lI x, lI 3, lI 1, lI 1, lI (-1)] [(.ref a)])) rfl rfl (hb hby d22_98)
      refine Ds (B := T32.setTop (mkF m 101 #[lR a, lI 0, lI x, lI 3, lI 1, lI 1, lI (-1)] [(.ref un)])) (fun _ k => st32 _ k) ?_
      refine Ds (B := T32.setTop (mkF m 104 #[lR a, lI 0, lI x, lI 3, lI 1, lI 1, lI (-1)] [(.int 3), (.int 1), (.ref un)])) (fun _ k => XS.iload X32.here hx rfl (hb hby d22_101) rfl (XS.iloadN X32.here hx rfl (hb hby d22_103) rfl k)) ?_
      obtain ⟨cl34, Ar34, q34, S34, M34, H34, G34⟩ := id V31
      have hin34 : ¬ ((1 : Int32) < 0 ∨ cl34.slots.size ≤ ((1 : Int32)).toNatClampNeg) := inb_of S34 ⟨by decide, by decide⟩
      obtain ⟨T34, h34, X34, e34, W34, st34⟩ := stI X32 hx hZ e32 Ar34 (j := (1 : Int32)) hin34 (g := (mkF m 104 #[lR a, lI 0, lI x, lI 3, lI 1, lI 1, lI (-1)] [(.int 3), (.int 1), (.ref un)])) rfl rfl (hb hby d22_104)
      have V34 : Arv Z h34 un kun .int 5 [(.int nn0), (.int 3), (.int 1), (.int (-1)), (.int nn4)] (.int 0) := Arv.set Ar34 q34 S34 M34 H34 G34 rfl W34 1 rfl (Nat.le_of_ble_eq_true rfl)
      have N34 := Fr.snoc X34 N31 g_un
      have Z34 : n0 ≤ h34.size := Nat.le_trans Z31 (Keep.of_wr W34).1
      have KK34 : Keep h0 h34 [up, ui, ud, uf, un] := (KK31).wr W34 (Or.inl (List.mem_of_getElem? (i := 4) rfl))
      refine Ds (B := T34.setTop (mkF m 105 #[lR a, lI 0, lI x, lI 3, lI 1, lI 1, lI (-1)] [])) (fun _ k => st34 _ k) ?_
      obtain ⟨fs, hr, hrun, hended, hW, hsame⟩ := X34.leave (v := none) (hlocks := hlk) (fun _ => rfl)
      have c36 := (((((V2.other W5 ne_up_ui).other W9 ne_up_ud).other W13 ne_up_uf).other W31 ne_up_un).other W34 ne_up_un)
      have c37 := ((c21.other W31 ne_ui_un).other W34 ne_ui_un)
      have c38 := (((V9.other W13 ne_ud_uf).other W31 ne_ud_un).other W34 ne_ud_un)
      have c39 := ((V13.other W31 ne_uf_un).other W34 ne_uf_un)
      refine Done.fin (X34.returnOut hx Bd.returns (hb hby d22_105) hr) hrun hended ⟨_, _, rfl, ?_, ⟨_, rfl⟩, hW, hsame.mono (by decide) (by decide)⟩
      show QrmLK_6 Z a x up kup ui kui ud kud uf kuf un kun pp0 pp1 pp2 pp3 pp4 ii0 ii1 ii2 ii3 ii4 dd0 dd1 dd2 dd3 dd4 ff1 ff2 ff3 ff4 nn0 nn3 nn4 h0 n0 _ T34.heap _
      rw [e34]
      exact ⟨rfl, N34, KK34, fun gg0 => absurd hc54 gg0, fun gg0 gg1 => absurd hc54' gg1, fun gg0 gg1 => ⟨c36, c37, c38, c39, V34⟩⟩
    · refine Ds (B := T26.setTop (mkF m 74 #[lR a, lI 0, lI x, lI 3, lI 1, lI 2, lI 1] [(.ref a)])) (fun _ k => XS.icmpYes X26.here hx rfl (pc0 := 54) (pc' := 73) rfl (hb hby d22_54) rfl (flt (hc54')).2.1 (by decide) (by decide) (XS.aloadN X26.here hx rfl (hb hby d22_73) rfl rfl k)) ?_
      obtain ⟨T40, X40, e40, st40⟩ := getF X26 hx hZ hown (host := "") (Or.inl (hw _ mm128)) Via.refl e26 c23 (g := (mkF m 74 #[lR a, lI 0, lI x, lI 3, lI 1, lI 2, lI 1] [(.ref a)])) rfl rfl (hb hby d22_74)
      refine Ds (B := T40.setTop (mkF m 77 #[lR a, lI 0, lI x, lI 3, lI 1, lI 2, lI 1] [(.ref un)])) (fun _ k => st40 _ k) ?_
      refine Ds (B := T40.setTop (mkF m 80 #[lR a, lI 0, lI x, lI 3, lI 1, lI 2, lI 1] [(.int 1), (.int 3), (.ref un)])) (fun _ k => XS.iloadN X40.here hx rfl (hb hby d22_77) rfl (XS.iload X40.here hx rfl (hb hby d22_78) rfl k)) ?_
      obtain ⟨cl41, Ar41, q41, S41, M41, H41, G41⟩ := id c25
      have hin41 : ¬ ((3 : Int32) < 0 ∨ cl41.slots.size ≤ ((3 : Int32)).toNatClampNeg) := inb_of S41 ⟨by decide, by decide⟩
      obtain ⟨T41, h41, X41, e41, W41, st41⟩ := stI X40 hx hZ e40 Ar41 (j := (3 : Int32)) hin41 (g := (mkF m 80 #[lR a, lI 0, lI x, lI 3, lI 1, lI 2, lI 1] [(.int 1), (.int 3), (.ref un)])) rfl rfl (hb hby d22_80)
      have V41 : Arv Z h41 un kun .int 5 [(.int nn0), (.int (-1)), (.int 1), (.int 1), (.int nn4)] (.int 0) := Arv.set Ar41 q41 S41 M41 H41 G41 rfl W41 3 rfl (Nat.le_of_ble_eq_true rfl)
      have N41 := Fr.snoc X41 N13 g_un
      have Z41 : n0 ≤ h41.size := Nat.le_trans Z13 (Keep.of_wr W41).1
      have KK41 : Keep h0 h41 [up, ui, ud, uf, un] := (KK13).wr W41 (Or.inl (List.mem_of_getElem? (i := 4) rfl))
      refine Ds (B := T41.setTop (mkF m 81 #[lR a, lI 0, lI x, lI 3, lI 1, lI 2, lI 1] [])) (fun _ k => st41 _ k) ?_
      refine Ds (B := T41.setTop (mkF m 98 #[lR a, lI 0, lI x, lI 3, lI 1, lI 2, lI 1] [(.ref a)])) (fun _ k => XS.iload X41.here hx rfl (hb hby d22_81) rfl (XS.iconst X41.here hx rfl (hb hby d22_83) (XS.icmpYes X41.here hx rfl (pc0 := 84) (pc' := 97) rfl (hb hby d22_84) rfl (feq (by decide : ¬ ((2 : Int32) = (-1 : Int32)))).2 (by decide) (by decide) (XS.aloadN X41.here hx rfl (hb hby d22_97) rfl rfl k)))) ?_
      have c43 := (Fld.other W41 c23 (Or.inl ne_a_un))
      obtain ⟨T42, X42, e42, st42⟩ := getF X41 hx hZ hown (host := "") (Or.inl (hw _ mm128)) Via.refl e41 c43 (g := (mkF m 98 #[lR a, lI 0, lI x, lI 3, lI 1, lI 2, lI 1] [(.ref a)])) rfl rfl (hb hby d22_98)
      refine Ds (B := T42.setTop (mkF m 101 #[lR a, lI 0, lI x, lI 3, lI 1, lI 2, lI 1] [(.ref un)])) (fun _ k => st42 _ k) ?_
      refine Ds (B := T42.setTop (mkF m 104 #[lR a, lI 0, lI x, lI 3, lI 1, lI 2, lI 1] [(.int 3), (.int 2), (.ref un)])) (fun _ k => XS.iload X42.here hx rfl (hb hby d22_101) rfl (XS.iloadN X42.here hx rfl (hb hby d22_103) rfl k)) ?_
      obtain ⟨cl44, Ar44, q44, S44, M44, H44, G44⟩ := id V41
      have hin44 : ¬ ((2 : Int32) < 0 ∨ cl44.slots.size ≤ ((2 : Int32)).toNatClampNeg) := inb_of S44 ⟨by decide, by decide⟩
      obtain ⟨T44, h44, X44, e44, W44, st44⟩ := stI X42 hx hZ e42 Ar44 (j := (2 : Int32)) hin44 (g := (mkF m 104 #[lR a, lI 0, lI x, lI 3, lI 1, lI 2, lI 1] [(.int 3), (.int 2), (.ref un)])) rfl rfl (hb hby d22_104)
      have V44 : Arv Z h44 un kun .int 5 [(.int nn0), (.int (-1)), (.int 3), (.int 1), (.int nn4)] (.int 0) := Arv.set Ar44 q44 S44 M44 H44 G44 rfl W44 2 rfl (Nat.le_of_ble_eq_true rfl)
      have N44 := Fr.snoc X44 N41 g_un
      have Z44 : n0 ≤ h44.size := Nat.le_trans Z41 (Keep.of_wr W44).1
      have KK44 : Keep h0 h44 [up, ui, ud, uf, un] := (KK41).wr W44 (Or.inl (List.mem_of_getElem? (i := 4) rfl))
      refine Ds (B := T44.setTop (mkF m 105 #[lR a, lI 0, lI x, lI 3, lI 1, lI 2, lI 1] [])) (fun _ k => st44 _ k) ?_
      obtain ⟨fs, hr, hrun, hended, hW, hsame⟩ := X44.leave (v := none) (hlocks := hlk) (fun _ => rfl)
      have c46 := (((((V2.other W5 ne_up_ui).other W9 ne_up_ud).other W13 ne_up_uf).other W41 ne_up_un).other W44 ne_up_un)
      have c47 := ((c21.other W41 ne_ui_un).other W44 ne_ui_un)
      have c48 := (((V9.other W13 ne_ud_uf).other W41 ne_ud_un).other W44 ne_ud_un)
      have c49 := ((V13.other W41 ne_uf_un).other W44 ne_uf_un)
      refine Done.fin (X44.returnOut hx Bd.returns (hb hby d22_105) hr) hrun hended ⟨_, _, rfl, ?_, ⟨_, rfl⟩, hW, hsame.mono (by decide) (by decide)⟩
      show QrmLK_6 Z a x up kup ui kui ud kud uf kuf un kun pp0 pp1 pp2 pp3 pp4 ii0 ii1 ii2 ii3 ii4 dd0 dd1 dd2 dd3 dd4 ff1 ff2 ff3 ff4 nn0 nn3 nn4 h0 n0 _ T44.heap _
      rw [e44]
      exact ⟨rfl, N44, KK44, fun gg0 => absurd hc54 gg0, fun gg0 gg1 => ⟨c46, c47, c48, c49, V44⟩, fun gg0 gg1 => absurd gg1 hc54'⟩
  · refine Ds (B := T18.setTop (mkF m 74 #[lR a, lI 0, lI x, lI 3, lI 1, lI (-1), lI 2] [(.ref a)])) (fun _ k => XS.icmpYes X18.here hx rfl (pc0 := 54) (pc' := 73) rfl (hb hby d22_54) rfl (flt hc54).2.1 (by decide) (by decide) (XS.aloadN X18.here hx rfl (hb hby d22_73) rfl rfl k)) ?_
    have c51 := (Fld.other W13 (Fld.other W9 (Fld.other W5 (Fld.other W2 F_nextSiblings (Or.inl ne_a_up)) (Or.inl ne_a_ui)) (Or.inl ne_a_ud)) (Or.inl ne_a_uf))
    obtain ⟨T50, X50, e50, st50⟩ := getF X18 hx hZ hown (host := "") (Or.inl (hw _ mm128)) Via.refl e18 c51 (g := (mkF m 74 #[lR a, lI 0, lI x, lI 3, lI 1, lI (-1), lI 2] [(.ref a)])) rfl rfl (hb hby d22_74)
    refine Ds (B := T50.setTop (mkF m 77 #[lR a, lI 0, lI x, lI 3, lI 1, lI (-1), lI 2] [(.ref un)])) (fun _ k => st50 _ k) ?_
    refine Ds (B := T50.setTop (mkF m 80 #[lR a, lI 0, lI x, lI 3, lI 1, lI (-1), lI 2] [(.int 2), (.int 3), (.ref un)])) (fun _ k => XS.iloadN X50.here hx rfl (hb hby d22_77) rfl (XS.iload X50.here hx rfl (hb hby d22_78) rfl k)) ?_
    have c53 := ((((V_nextSiblings.other W2 (Ne.symm ne_up_un)).other W5 (Ne.symm ne_ui_un)).other W9 (Ne.symm ne_ud_un)).other W13 (Ne.symm ne_uf_un))
    obtain ⟨cl52, Ar52, q52, S52, M52, H52, G52⟩ := id c53
    have hin52 : ¬ ((3 : Int32) < 0 ∨ cl52.slots.size ≤ ((3 : Int32)).toNatClampNeg) := inb_of S52 ⟨by decide, by decide⟩
    obtain ⟨T52, h52, X52, e52, W52, st52⟩ := stI X50 hx hZ e50 Ar52 (j := (3 : Int32)) hin52 (g := (mkF m 80 #[lR a, lI 0, lI x, lI 3, lI 1, lI (-1), lI 2] [(.int 2), (.int 3), (.ref un)])) rfl rfl (hb hby d22_80)
    have V52 : Arv Z h52 un kun .int 5 [(.int nn0), (.int (-1)), (.int 1), (.int 2), (.int nn4)] (.int 0) := Arv.set Ar52 q52 S52 M52 H52 G52 rfl W52 3 rfl (Nat.le_of_ble_eq_true rfl)
    have N52 := Fr.snoc X52 N13 g_un
    have Z52 : n0 ≤ h52.size := Nat.le_trans Z13 (Keep.of_wr W52).1
    have KK52 : Keep h0 h52 [up, ui, ud, uf, un] := (KK13).wr W52 (Or.inl (List.mem_of_getElem? (i := 4) rfl))
    refine Ds (B := T52.setTop (mkF m 81 #[lR a, lI 0, lI x, lI 3, lI 1, lI (-1), lI 2] [])) (fun _ k => st52 _ k) ?_
    refine Ds (B := T52.setTop (mkF m 88 #[lR a, lI 0, lI x, lI 3, lI 1, lI (-1), lI 2] [(.ref a)])) (fun _ k => XS.iload X52.here hx rfl (hb hby d22_81) rfl (XS.iconst X52.here hx rfl (hb hby d22_83) (XS.icmpNo X52.here hx rfl (hb hby d22_84) rfl (teq (rfl : (-1 : Int32) = (-1 : Int32))).2 (XS.aloadN X52.here hx rfl (hb hby d22_87) rfl rfl k)))) ?_
    have c55 := (Fld.other W52 c16 (Or.inl ne_a_un))
    obtain ⟨T54, X54, e54, st54⟩ := getF X52 hx hZ hown (host := "") (Or.inl (hw _ mm126)) Via.refl e52 c55 (g := (mkF m 88 #[lR a, lI 0, lI x, lI 3, lI 1, lI (-1), lI 2] [(.ref a)])) rfl rfl (hb hby d22_88)
    refine Ds (B := T54.setTop (mkF m 91 #[lR a, lI 0, lI x, lI 3, lI 1, lI (-1), lI 2] [(.ref uf)])) (fun _ k => st54 _ k) ?_
    refine Ds (B := T54.setTop (mkF m 93 #[lR a, lI 0, lI x, lI 3, lI 1, lI (-1), lI 2] [(.int 3), (.int 0), (.ref uf)])) (fun _ k => XS.iloadN X54.here hx rfl (hb hby d22_91) rfl (XS.iloadN X54.here hx rfl (hb hby d22_92) rfl k)) ?_
    have c57 := (V13.other W52 ne_uf_un)
    obtain ⟨cl56, Ar56, q56, S56, M56, H56, G56⟩ := id c57
    have hin56 : ¬ ((0 : Int32) < 0 ∨ cl56.slots.size ≤ ((0 : Int32)).toNatClampNeg) := inb_of S56 ⟨by decide, by decide⟩
    obtain ⟨T56, h56, X56, e56, W56, st56⟩ := stI X54 hx hZ e54 Ar56 (j := (0 : Int32)) hin56 (g := (mkF m 93 #[lR a, lI 0, lI x, lI 3, lI 1, lI (-1), lI 2] [(.int 3), (.int 0), (.ref uf)])) rfl rfl (hb hby d22_93)
    have V56 : Arv Z h56 uf kuf .int 5 [(.int 3), (.int ff1), (.int ff2), (.int (-1)), (.int ff4)] (.int 0) := Arv.set Ar56 q56 S56 M56 H56 G56 rfl W56 0 rfl (Nat.le_of_ble_eq_true rfl)
    have N56 := Fr.snoc X56 N52 g_uf
    have Z56 : n0 ≤ h56.size := Nat.le_trans Z52 (Keep.of_wr W56).1
    have KK56 : Keep h0 h56 [up, ui, ud, uf, un] := (KK52).wr W56 (Or.inl (List.mem_of_getElem? (i := 3) rfl))
    refine Ds (B := T56.setTop (mkF m 94 #[lR a, lI 0, lI x, lI 3, lI 1, lI (-1), lI 2] [])) (fun _ k => st56 _ k) ?_
    refine Ds (B := T56.setTop (mkF m 105 #[lR a, lI 0, lI x, lI 3, lI 1, lI (-1), lI 2] [])) (fun _ k => XS.goto X56.here hx rfl (pc0 := 94) (pc' := 105) rfl (hb hby d22_94) (by decide) (by decide) k) ?_
    obtain ⟨fs, hr, hrun, hended, hW, hsame⟩ := X56.leave (v := none) (hlocks := hlk) (fun _ => rfl)
    have c59 := (((((V2.other W5 ne_up_ui).other W9 ne_up_ud).other W13 ne_up_uf).other W52 ne_up_un).other W56 ne_up_uf)
    have c60 := ((c21.other W52 ne_ui_un).other W56 ne_ui_uf)
    have c61 := (((V9.other W13 ne_ud_uf).other W52 ne_ud_un).other W56 ne_ud_uf)
    have c62 := (V52.other W56 (Ne.symm ne_uf_un))
    refine Done.fin (X56.returnOut hx Bd.returns (hb hby d22_105) hr) hrun hended ⟨_, _, rfl, ?_, ⟨_, rfl⟩, hW, hsame.mono (by decide) (by decide)⟩
    show QrmLK_6 Z a x up kup ui kui ud kud uf kuf un kun pp0 pp1 pp2 pp3 pp4 ii0 ii1 ii2 ii3 ii4 dd0 dd1 dd2 dd3 dd4 ff1 ff2 ff3 ff4 nn0 nn3 nn4 h0 n0 _ T56.heap _
    rw [e56]
    exact ⟨rfl, N56, KK56, fun gg0 => ⟨c59, c60, c61, V56, c62⟩, fun gg0 gg1 => absurd gg0 hc54, fun gg0 gg1 => absurd gg0 hc54⟩
theorem ef_rmPT (m : MethodId) (a : Addr) (su : Addr) : entryFrame m #[(.ref a), (.ref su)] 16 = mkF m 0 #[lR a, lR su, lU, lU, lU, lU, lU, lU, lU, lU, lU, lU, lU, lU, lU, lU] [] := by first | (simp [entryFrame, mkF, argsToLocals, Value.category]; done) | rfl
def QrmPT (Z : State) (a : Addr) (su : Addr) (u : Addr) (ku : ClassId) (cc0 : Addr) (cc1 : Addr) (cc2 : Addr) (kel0 : ClassId) (kel1 : ClassId) (kel2 : ClassId) (va : Int32) (vb : Int32) (vc : Int32) (vd : Int32) (h0 : Heap) (n0 : Nat) (v : Option Value) (h : Heap) (L : List Loc) : Prop := ∃ (ui : Addr) (kui : ClassId) (vi : List Value) (uf : Addr) (kuf : ClassId) (vf : List Value) (un : Addr) (kun : ClassId) (vn : List Value) (f0 nd : Int32) (l0 : List (Int32 × Int32)), v = none ∧ Fr n0 L ∧ Keep h0 h [a] ∧ Exa Z h a "com/example/percurso/percurso/suite/PrefixTree" ∧ Fld Z h a "com/example/percurso/percurso/suite/PrefixTree" "inputs" "[I" (.ref ui) ∧ Fld Z h a "com/example/percurso/percurso/suite/PrefixTree" "firstChildren" "[I" (.ref uf) ∧ Fld Z h a "com/example/percurso/percurso/suite/PrefixTree" "nextSiblings" "[I" (.ref un) ∧ Arv Z h ui kui .int 5 vi (.int 0) ∧ Arv Z h uf kuf .int 5 vf (.int 0) ∧ Arv Z h un kun .int 5 vn (.int 0) ∧ own_T va vb vc vd vi vf vn f0 nd l0
def PrmPT (s : State) (Z : State) (a : Addr) (su : Addr) (u : Addr) (ku : ClassId) (cc0 : Addr) (cc1 : Addr) (cc2 : Addr) (kel0 : ClassId) (kel1 : ClassId) (kel2 : ClassId) (va : Int32) (vb : Int32) (vc : Int32) (vd : Int32) (h0 : Heap) (n0 : Nat) : State → Outcome → Prop := fun U' o => ∃ v L, o = .returned v ∧ QrmPT Z a su u ku cc0 cc1 cc2 kel0 kel1 kel2 va vb vc vd h0 n0 v U'.heap L ∧ FrameEnd s o U' L ({ frames := 1, cells := 7, slots := 31, locals := 18 } : Room).cells ({ frames := 1, cells := 7, slots := 31, locals := 18 } : Room).slots
set_option maxRecDepth 65536 in
set_option maxHeartbeats 40000000 in
theorem rmPT (l : Launch) (Z : State) (a0 : Array Value) (hw : ∀ d ∈ tables_1, d.before a0 Z = true) (ws : List Jvm.Cond) (a : Addr) (su : Addr) (u : Addr) (ku : ClassId) (cc0 : Addr) (cc1 : Addr) (cc2 : Addr) (kel0 : ClassId) (kel1 : ClassId) (kel2 : ClassId) (va : Int32) (vb : Int32) (vc : Int32) (vd : Int32) (h0 : Heap) (n0 : Nat) (Z0 : n0 ≤ h0.size) (F_parents : Fld Z h0 a "com/example/percurso/percurso/suite/PrefixTree" "parents" "[I" .null) (F_inputs : Fld Z h0 a "com/example/percurso/percurso/suite/PrefixTree" "inputs" "[I" .null) (F_depths : Fld Z h0 a "com/example/percurso/percurso/suite/PrefixTree" "depths" "[I" .null) (F_firstChildren : Fld Z h0 a "com/example/percurso/percurso/suite/PrefixTree" "firstChildren" "[I" .null) (F_nextSiblings : Fld Z h0 a "com/example/percurso/percurso/suite/PrefixTree" "nextSiblings" "[I" .null) (F_size : Fld Z h0 a "com/example/percurso/percurso/suite/PrefixTree" "size" "I" (.int 0)) (Et : Exa Z h0 a "com/example/percurso/percurso/suite/PrefixTree") (gs : n0 ≤ a) (Es : Exa Z h0 su "com/example/percurso/percurso/suite/Suite") (Ft : Fld Z h0 su "com/example/percurso/percurso/suite/Suite" "tests" "[[I" (.ref u)) (Vu : Arv Z h0 u ku (.array .int) (3 : Int32) [(.ref cc0), (.ref cc1), (.ref cc2)] .null) (V_cc0 : Arv Z h0 cc0 kel0 .int 2 [(.int va), (.int vd)] (.int 0)) (V_cc1 : Arv Z h0 cc1 kel1 .int 1 [(.int vb)] (.int 0)) (V_cc2 : Arv Z h0 cc2 kel2 .int 1 [(.int vc)] (.int 0)) (na_su : a ≠ su) (na_u : a ≠ u) (na_cc0 : a ≠ cc0) (na_cc1 : a ≠ cc1) (na_cc2 : a ≠ cc2) :
    MetFree l (⟨"com/example/percurso/percurso/suite/PrefixTree", "<init>", "(Lcom/example/percurso/percurso/suite/Suite;)V"⟩ : MethodName) (head1 (Jvm.Cond.code (⟨"com/example/percurso/percurso/suite/PrefixTree", "<init>", "(Lcom/example/percurso/percurso/suite/Suite;)V"⟩ : MethodName) prog_191_method_1_code 16 none :: ws) ({ frames := 1, cells := 7, slots := 31, locals := 18 } : Room)) (fun aa U => aa = #[(.ref a), (.ref su)] ∧ Z.Warmed39 U.vm ∧ U.heap = h0) (fun _ _ _ _ _ => True) (fun _ U o U' => ∃ v L, o = .returned v ∧ QrmPT Z a su u ku cc0 cc1 cc2 kel0 kel1 kel2 va vb vc vd h0 n0 v U'.heap L ∧ FrameEnd U o U' L ({ frames := 1, cells := 7, slots := 31, locals := 18 } : Room).cells ({ frames := 1, cells := 7, slots := 31, locals := 18 } : Room).slots) := by
  refine MetFree.of_bodySF (plainFor_of_name pn_6) hisR ?_
  intro p e s m args below meth c s₁ Bd hml0 hP hK
  obtain ⟨rfl, hZ, hh⟩ := hP
  have hx := Bd.exec
  have hlk : meth.locks = false := by first | exact BodyLoose.notSynchronized Bd | exact Body.notSynchronized Bd
  have hby := Bd.bytes
  have hml : c.maxLocals = 16 := hml0
  have hown : s.vm.findClass "com/example/percurso/percurso/suite/PrefixTree" = some m.cls := findClass_of_methodNamed Bd.named
  have hnm := (name_of_methodNamed Bd.named Bd.method).1
  have X0 : Stand p l e ({ frames := 1, cells := 7, slots := 31, locals := 18 } : Room) s m #[(.ref a), (.ref su)] below meth c s₁ [] 0 0 := Stand.of_body Bd
  have e0 : s₁.heap = h0 := by rw [← hh, Bd.state]; rfl
  have N0 := Fr.nil n0
  show Done p e below (PrmPT s Z a su u ku cc0 cc1 cc2 kel0 kel1 kel2 va vb vc vd h0 n0) (s₁.setTop (entryFrame m #[(.ref a), (.ref su)] 16))
  refine Ds (B := s₁.setTop (mkF m 0 #[lR a, lR su, lU, lU, lU, lU, lU, lU, lU, lU, lU, lU, lU, lU, lU, lU] [])) (fun _ k => castTop (ef_rmPT m a su) k) ?_
  refine Ds (B := s₁.setTop (mkF m 1 #[lR a, lR su, lU, lU, lU, lU, lU, lU, lU, lU, lU, lU, lU, lU, lU, lU] [(.ref a)])) (fun _ k => XS.aloadN X0.here hx rfl (hb hby d16_0) rfl rfl k) ?_
  obtain ⟨T1, X1, e1, st1⟩ := initO X0 hx hZ hown (hw _ mm113) (hw _ mm19) (hw _ mm20) e0 (g := (mkF m 1 #[lR a, lR su, lU, lU, lU, lU, lU, lU, lU, lU, lU, lU, lU, lU, lU, lU] [(.ref a)])) rfl (by rw [hml]; rfl) rfl (hb hby d16_1) (by decide) (W := 0) (by show 2 * 0 + _ ≤ _; exact Nat.le_of_eq rfl) (by decide)
  refine Ds (B := T1.setTop (mkF m 4 #[lR a, lR su, lU, lU, lU, lU, lU, lU, lU, lU, lU, lU, lU, lU, lU, lU] [])) (fun _ k => st1 _ k) ?_
  refine Ds (B := T1.setTop (mkF m 5 #[lR a, lR su, lU, lU, lU, lU, lU, lU, lU, lU, lU, lU, lU, lU, lU, lU] [(.ref su)])) (fun _ k => XS.aloadN X1.here hx rfl (hb hby d16_4) rfl rfl k) ?_
  obtain ⟨cq2, kq2, q2a, q2b, q2c⟩ := isOf hZ e1 Es
  obtain ⟨_, _, ⟨T2, L2, k2, n2⟩, -, X2, ⟨Lc2, hQ2, l2, y2, z2⟩, st2⟩ := X1.virtualBack hx (y := (⟨"com/example/percurso/percurso/suite/Suite", "inputCount", "()J"⟩ : MethodName)) (z := (⟨"com/example/percurso/percurso/suite/Suite", "inputCount", "()J"⟩ : MethodName)) hown (mvT hZ (hw _ mm114)) (mvT hZ (hw _ mm115)) (notFace_of_selects (args := #[]) (mvT hZ (hw _ mm117))) (mvT hZ (hw _ mm117)) (mvT hZ (hw _ mm116)) (by decide) (backOf (W := 0) (rm17 l Z a0 hw [] su u ku cc0 cc1 cc2 kel0 kel1 kel2 va vb vc vd h0 n0 Z0 Ft Vu V_cc0 V_cc1 V_cc2) hZ (hw _ mm118) (hw _ mm63) (by decide) (by decide)) q2a q2c (g := (mkF m 5 #[lR a, lR su, lU, lU, lU, lU, lU, lU, lU, lU, lU, lU, lU, lU, lU, lU] [(.ref su)])) rfl (by rw [hml]; rfl) (Steps.refl _) (argsL := []) (rest := []) (lenOf pd_8 rfl) rfl (by show 2 * 0 + _ ≤ _; exact Nat.le_of_eq rfl) (hb hby d16_5) (fun _ _ => ⟨rfl, e1, (by decide : 0 + 0 ≤ _), (by decide : 0 + 0 ≤ _)⟩)
  dsimp only [Pt.U, Pt.locs, Pt.cells, Pt.slots] at X2 l2 y2 z2 st2 hQ2
  rw [l2, y2, z2] at X2
  obtain ⟨hv2, N2q, e2⟩ := hQ2
  rw [hv2] at st2
  have N2 := Fr.app N0 N2q
  refine Ds (B := T2.setTop (mkF m 8 #[lR a, lR su, lU, lU, lU, lU, lU, lU, lU, lU, lU, lU, lU, lU, lU, lU] [(.long (4 : Int64))])) (fun _ k => st2.trans k) ?_
  refine Ds (B := T2.setTop (mkF m 9 #[lR a, lR su, lU, lU, lU, lU, lU, lU, lU, lU, lU, lU, lU, lU, lU, lU] [(.long (1 : Int64)), (.long (4 : Int64))])) (fun _ k => XS.lconst X2.here hx rfl (hb hby d16_8) k) ?_
  refine Ds (B := T2.setTop (mkF m 10 #[lR a, lR su, lU, lU, lU, lU, lU, lU, lU, lU, lU, lU, lU, lU, lU, lU] [(.long (5 : Int64))])) (fun _ k => XS.ladd X2.here hx rfl (hb hby d16_9) rfl k) ?_
  refine Ds (B := T2.setTop (mkF m 11 #[lR a, lR su, lJ 5, lS, lU, lU, lU, lU, lU, lU, lU, lU, lU, lU, lU, lU] [])) (fun _ k => XS.lstoreN X2.here hx rfl (hb hby d16_10) rfl (l' := #[lR a, lR su, lJ 5, lS, lU, lU, lU, lU, lU, lU, lU, lU, lU, lU, lU, lU]) rfl k) ?_
  refine Ds (B := T2.setTop (mkF m 12 #[lR a, lR su, lJ 5, lS, lU, lU, lU, lU, lU, lU, lU, lU, lU, lU, lU, lU] [(.long (5 : Int64))])) (fun _ k => XS.lloadN X2.here hx rfl (hb hby d16_11) rfl k) ?_
  refine Ds (B := T2.setTop (mkF m 15 #[lR a, lR su, lJ 5, lS, lU, lU, lU, lU, lU, lU, lU, lU, lU, lU, lU, lU] [(.long (2147483639 : Int64)), (.long (5 : Int64))])) (fun _ k => X2.ldc2Long hx hown (mvT hZ (hw _ mm119)) (g := (mkF m 12 #[lR a, lR su, lJ 5, lS, lU, lU, lU, lU, lU, lU, lU, lU, lU, lU, lU, lU] [(.long (5 : Int64))])) rfl (hb hby d16_12) _ k) ?_
  refine Ds (B := T2.setTop (mkF m 16 #[lR a, lR su, lJ 5, lS, lU, lU, lU, lU, lU, lU, lU, lU, lU, lU, lU, lU] [(.int (lcmpW (5 : Int64) (2147483639 : Int64)))])) (fun _ k => XS.lcmp X2.here hx rfl (hb hby d16_15) rfl k) ?_
  refine Ds (B := T2.setTop (mkF m 36 #[lR a, lR su, lJ 5, lS, lU, lU, lU, lU, lU, lU, lU, lU, lU, lU, lU, lU] [])) (fun _ k => XS.ifYes X2.here hx rfl (pc0 := 16) (pc' := 36) rfl (hb hby d16_16) rfl ((if0 _ _).trans (flt (fun z => (by decide : ¬ ((2147483639 : Int64) < (5 : Int64))) ((lw_gt _ _).mp z))).2.2.2) (by decide) (by decide) k) ?_
  refine Ds (B := T2.setTop (mkF m 38 #[lR a, lR su, lJ 5, lS, lU, lU, lU, lU, lU, lU, lU, lU, lU, lU, lU, lU] [(.int 5)])) (fun _ k => XS.lloadN X2.here hx rfl (hb hby d16_36) rfl (XS.l2i X2.here hx rfl (hb hby d16_37) rfl k)) ?_
  refine Ds (B := T2.setTop (mkF m 43 #[lR a, lR su, lJ 5, lS, lI 5, lU, lU, lU, lU, lU, lU, lU, lU, lU, lU, lU] [(.int 5), (.ref a)])) (fun _ k => XS.istore X2.here hx rfl (hb hby d16_38) rfl (l' := #[lR a, lR su, lJ 5, lS, lI 5, lU, lU, lU, lU, lU, lU, lU, lU, lU, lU, lU]) rfl (XS.aloadN X2.here hx rfl (hb hby d16_40) rfl rfl (XS.iload X2.here hx rfl (hb hby d16_41) rfl k))) ?_
  obtain ⟨T3, h3, k3, X3, e3, E3, A3, Ex3, st3⟩ := newPE X2 hx hZ (hw _ (List.mem_of_getElem? (i := 26) rfl)) e2 (g := (mkF m 43 #[lR a, lR su, lJ 5, lS, lI 5, lU, lU, lU, lU, lU, lU, lU, lU, lU, lU, lU] [(.int 5), (.ref a)])) rfl (hb hby d16_43) rfl (by decide) (cap := 5) (by decide) (by decide) (by decide) (by decide) (ad := "[I") rfl
  obtain ⟨b3, g3⟩ : ∃ z, z = h0.size := ⟨_, rfl⟩
  rw [← g3] at A3 Ex3 st3
  have ne_a_b3 : a ≠ b3 := Nat.ne_of_lt (Nat.lt_of_lt_of_le F_parents.lt (Nat.le_of_eq g3.symm))
  have ne_su_b3 : su ≠ b3 := Nat.ne_of_lt (Nat.lt_of_lt_of_le Es.lt (Nat.le_of_eq g3.symm))
  have ne_u_b3 : u ≠ b3 := Nat.ne_of_lt (Nat.lt_of_lt_of_le Vu.lt (Nat.le_of_eq g3.symm))
  have ne_cc0_b3 : cc0 ≠ b3 := Nat.ne_of_lt (Nat.lt_of_lt_of_le V_cc0.lt (Nat.le_of_eq g3.symm))
  have ne_cc1_b3 : cc1 ≠ b3 := Nat.ne_of_lt (Nat.lt_of_lt_of_le V_cc1.lt (Nat.le_of_eq g3.symm))
  have ne_cc2_b3 : cc2 ≠ b3 := Nat.ne_of_lt (Nat.lt_of_lt_of_le V_cc2.lt (Nat.le_of_eq g3.symm))
  have ge_b3 : n0 ≤ b3 := Nat.le_trans Z0 (Nat.le_of_eq g3.symm)
  have sz_b3 : h0.size ≤ b3 := Nat.le_trans ((Keep.refl h0 [a])).1 (Nat.le_of_eq g3.symm)
  have Z3 : n0 ≤ h3.size := Nat.le_trans Z0 E3.1
  have V3 : Arv Z h3 b3 k3 .int 5 [(.int 0), (.int 0), (.int 0), (.int 0), (.int 0)] (.int 0) := (Arv.new A3 (by decide)).pad (pad_rep [] (.int 0) 5)
  have KK3 : Keep h0 h3 [a] := ((Keep.refl h0 [a])).ext E3
  refine Ds (B := T3.setTop (mkF m 45 #[lR a, lR su, lJ 5, lS, lI 5, lU, lU, lU, lU, lU, lU, lU, lU, lU, lU, lU] [(.ref b3), (.ref a)])) (fun _ k => st3 _ k) ?_
  have c4 := (Exa.ext E3 Et)
  have c5 := (Fld.ext E3 F_parents)
  obtain ⟨T6, h6, X6, e6, W6, st6⟩ := putF X3 hx hZ hown (host := "") (Or.inl (hw _ mm120)) Via.refl e3 c5 c4 (Or.inr ⟨(hw _ mm121), rfl, hnm⟩) (hw _ mm59) (ty := (.array .int)) (by decide) rfl rfl (g := (mkF m 45 #[lR a, lR su, lJ 5, lS, lI 5, lU, lU, lU, lU, lU, lU, lU, lU, lU, lU, lU] [(.ref b3), (.ref a)])) rfl rfl (hb hby d16_45)
  have F6 := Fld.same W6 c5
  have N6 := Fr.snoc X6 N2 gs
  have Z6 : n0 ≤ h6.size := Nat.le_trans Z3 (Keep.of_wr W6).1
  have KK6 : Keep h0 h6 [a] := (KK3).wr W6 (Or.inl (List.mem_of_getElem? (i := 0) rfl))
  refine Ds (B := T6.setTop (mkF m 48 #[lR a, lR su, lJ 5, lS, lI 5, lU, lU, lU, lU, lU, lU, lU, lU, lU, lU, lU] [])) (fun _ k => st6 _ k) ?_
  refine Ds (B := T6.setTop (mkF m 51 #[lR a, lR su, lJ 5, lS, lI 5, lU, lU, lU, lU, lU, lU, lU, lU, lU, lU, lU] [(.int 5), (.ref a)])) (fun _ k => XS.aloadN X6.here hx rfl (hb hby d16_48) rfl rfl (XS.iload X6.here hx rfl (hb hby d16_49) rfl k)) ?_
  obtain ⟨T7, h7, k7, X7, e7, E7, A7, Ex7, st7⟩ := newPE X6 hx hZ (hw _ (List.mem_of_getElem? (i := 26) rfl)) e6 (g := (mkF m 51 #[lR a, lR su, lJ 5, lS, lI 5, lU, lU, lU, lU, lU, lU, lU, lU, lU, lU, lU] [(.int 5), (.ref a)])) rfl (hb hby d16_51) rfl (by decide) (cap := 5) (by decide) (by decide) (by decide) (by decide) (ad := "[I") rfl
  have c8 := (Exa.wr W6 (Exa.ext E3 Es))
  have c9 := ((Vu.ext E3).other W6 (Ne.symm na_u))
  have c10 := ((V_cc0.ext E3).other W6 (Ne.symm na_cc0))
  have c11 := ((V_cc1.ext E3).other W6 (Ne.symm na_cc1))
  have c12 := ((V_cc2.ext E3).other W6 (Ne.symm na_cc2))
  have c13 := (V3.other W6 (Ne.symm ne_a_b3))
  obtain ⟨b7, g7⟩ : ∃ z, z = h6.size := ⟨_, rfl⟩
  rw [← g7] at A7 Ex7 st7
  have ne_a_b7 : a ≠ b7 := Nat.ne_of_lt (Nat.lt_of_lt_of_le F6.lt (Nat.le_of_eq g7.symm))
  have ne_su_b7 : su ≠ b7 := Nat.ne_of_lt (Nat.lt_of_lt_of_le c8.lt (Nat.le_of_eq g7.symm))
  have ne_u_b7 : u ≠ b7 := Nat.ne_of_lt (Nat.lt_of_lt_of_le c9.lt (Nat.le_of_eq g7.symm))
  have ne_cc0_b7 : cc0 ≠ b7 := Nat.ne_of_lt (Nat.lt_of_lt_of_le c10.lt (Nat.le_of_eq g7.symm))
  have ne_cc1_b7 : cc1 ≠ b7 := Nat.ne_of_lt (Nat.lt_of_lt_of_le c11.lt (Nat.le_of_eq g7.symm))
  have ne_cc2_b7 : cc2 ≠ b7 := Nat.ne_of_lt (Nat.lt_of_lt_of_le c12.lt (Nat.le_of_eq g7.symm))
  have ne_b3_b7 : b3 ≠ b7 := Nat.ne_of_lt (Nat.lt_of_lt_of_le c13.lt (Nat.le_of_eq g7.symm))
  have ge_b7 : n0 ≤ b7 := Nat.le_trans Z6 (Nat.le_of_eq g7.symm)
  have sz_b7 : h0.size ≤ b7 := Nat.le_trans (KK6).1 (Nat.le_of_eq g7.symm)
  have Z7 : n0 ≤ h7.size := Nat.le_trans Z6 E7.1
  have V7 : Arv Z h7 b7 k7 .int 5 [(.int 0), (.int 0), (.int 0), (.int 0), (.int 0)] (.int 0) := (Arv.new A7 (by decide)).pad (pad_rep [] (.int 0) 5)
  have KK7 : Keep h0 h7 [a] := (KK6).ext E7
  refine Ds (B := T7.setTop (mkF m 53 #[lR a, lR su, lJ 5, lS, lI 5, lU, lU, lU, lU, lU, lU, lU, lU, lU, lU, lU] [(.ref b7), (.ref a)])) (fun _ k => st7 _ k) ?_
  have c14 := (Exa.ext E7 (Exa.wr W6 c4))
  have c15 := (Fld.ext E7 (Fld.other W6 (Fld.ext E3 F_inputs) (Or.inr (slot_ne (Or.inr (hw _ mm123)) (Or.inr (hw _ mm121)) (by decide) (t := (.array .int)) (t' := (.array .int)) (by decide) (by decide)))))
  obtain ⟨T16, h16, X16, e16, W16, st16⟩ := putF X7 hx hZ hown (host := "") (Or.inl (hw _ mm122)) Via.refl e7 c15 c14 (Or.inr ⟨(hw _ mm123), rfl, hnm⟩) (hw _ mm59) (ty := (.array .int)) (by decide) rfl rfl (g := (mkF m 53 #[lR a, lR su, lJ 5, lS, lI 5, lU, lU, lU, lU, lU, lU, lU, lU, lU, lU, lU] [(.ref b7), (.ref a)])) rfl rfl (hb hby d16_53)
  have F16 := Fld.same W16 c15
  have N16 := Fr.snoc X16 N6 gs
  have Z16 : n0 ≤ h16.size := Nat.le_trans Z7 (Keep.of_wr W16).1
  have KK16 : Keep h0 h16 [a] := (KK7).wr W16 (Or.inl (List.mem_of_getElem? (i := 0) rfl))
  refine Ds (B := T16.setTop (mkF m 56 #[lR a, lR su, lJ 5, lS, lI 5, lU, lU, lU, lU, lU, lU, lU, lU, lU, lU, lU] [])) (fun _ k => st16 _ k) ?_
  refine Ds (B := T16.setTop (mkF m 59 #[lR a, lR su, lJ 5, lS, lI 5, lU, lU, lU, lU, lU, lU, lU, lU, lU, lU, lU] [(.int 5), (.ref a)])) (fun _ k => XS.aloadN X16.here hx rfl (hb hby d16_56) rfl rfl (XS.iload X16.here hx rfl (hb hby d16_57) rfl k)) ?_
  obtain ⟨T17, h17, k17, X17, e17, E17, A17, Ex17, st17⟩ := newPE X16 hx hZ (hw _ (List.mem_of_getElem? (i := 26) rfl)) e16 (g := (mkF m 59 #[lR a, lR su, lJ 5, lS, lI 5, lU, lU, lU, lU, lU, lU, lU, lU, lU, lU, lU] [(.int 5), (.ref a)])) rfl (hb hby d16_59) rfl (by decide) (cap := 5) (by decide) (by decide) (by decide) (by decide) (ad := "[I") rfl
  have c18 := (Fld.other W16 (Fld.ext E7 F6) (Or.inr (slot_ne (Or.inr (hw _ mm121)) (Or.inr (hw _ mm123)) (by decide) (t := (.array .int)) (t' := (.array .int)) (by decide) (by decide))))
  have c19 := (Exa.wr W16 (Exa.ext E7 c8))
  have c20 := ((c9.ext E7).other W16 (Ne.symm na_u))
  have c21 := ((c10.ext E7).other W16 (Ne.symm na_cc0))
  have c22 := ((c11.ext E7).other W16 (Ne.symm na_cc1))
  have c23 := ((c12.ext E7).other W16 (Ne.symm na_cc2))
  have c24 := ((c13.ext E7).other W16 (Ne.symm ne_a_b3))
  have c25 := (V7.other W16 (Ne.symm ne_a_b7))
  obtain ⟨b17, g17⟩ : ∃ z, z = h16.size := ⟨_, rfl⟩
  rw [← g17] at A17 Ex17 st17
  have ne_a_b17 : a ≠ b17 := Nat.ne_of_lt (Nat.lt_of_lt_of_le c18.lt (Nat.le_of_eq g17.symm))
  have ne_su_b17 : su ≠ b17 := Nat.ne_of_lt (Nat.lt_of_lt_of_le c19.lt (Nat.le_of_eq g17.symm))
  have ne_u_b17 : u ≠ b17 := Nat.ne_of_lt (Nat.lt_of_lt_of_le c20.lt (Nat.le_of_eq g17.symm))
  have ne_cc0_b17 : cc0 ≠ b17 := Nat.ne_of_lt (Nat.lt_of_lt_of_le c21.lt (Nat.le_of_eq g17.symm))
  have ne_cc1_b17 : cc1 ≠ b17 := Nat.ne_of_lt (Nat.lt_of_lt_of_le c22.lt (Nat.le_of_eq g17.symm))
  have ne_cc2_b17 : cc2 ≠ b17 := Nat.ne_of_lt (Nat.lt_of_lt_of_le c23.lt (Nat.le_of_eq g17.symm))
  have ne_b3_b17 : b3 ≠ b17 := Nat.ne_of_lt (Nat.lt_of_lt_of_le c24.lt (Nat.le_of_eq g17.symm))
  have ne_b7_b17 : b7 ≠ b17 := Nat.ne_of_lt (Nat.lt_of_lt_of_le c25.lt (Nat.le_of_eq g17.symm))
  have ge_b17 : n0 ≤ b17 := Nat.le_trans Z16 (Nat.le_of_eq g17.symm)
  have sz_b17 : h0.size ≤ b17 := Nat.le_trans (KK16).1 (Nat.le_of_eq g17.symm)
  have Z17 : n0 ≤ h17.size := Nat.le_trans Z16 E17.1
  have V17 : Arv Z h17 b17 k17 .int 5 [(.int 0), (.int 0), (.int 0), (.int 0), (.int 0)] (.int 0) := (Arv.new A17 (by decide)).pad (pad_rep [] (.int 0) 5)
  have KK17 : Keep h0 h17 [a] := (KK16).ext E17
  refine Ds (B := T17.setTop (mkF m 61 #[lR a, lR su, lJ 5, lS, lI 5, lU, lU, lU, lU, lU, lU, lU, lU, lU, lU, lU] [(.ref b17), (.ref a)])) (fun _ k => st17 _ k) ?_
  have c26 := (Exa.ext E17 (Exa.wr W16 c14))
  have c27 := (Fld.ext E17 (Fld.other W16 (Fld.ext E7 (Fld.other W6 (Fld.ext E3 F_depths) (Or.inr (slot_ne (Or.inr (hw _ mm125)) (Or.inr (hw _ mm121)) (by decide) (t := (.array .int)) (t' := (.array .int)) (by decide) (by decide))))) (Or.inr (slot_ne (Or.inr (hw _ mm125)) (Or.inr (hw _ mm123)) (by decide) (t := (.array .int)) (t' := (.array .int)) (by decide) (by decide)))))
  obtain ⟨T28, h28, X28, e28, W28, st28⟩ := putF X17 hx hZ hown (host := "") (Or.inl (hw _ mm124)) Via.refl e17 c27 c26 (Or.inr ⟨(hw _ mm125), rfl, hnm⟩) (hw _ mm59) (ty := (.array .int)) (by decide) rfl rfl (g := (mkF m 61 #[lR a, lR su, lJ 5, lS, lI 5, lU, lU, lU, lU, lU, lU, lU, lU, lU, lU, lU] [(.ref b17), (.ref a)])) rfl rfl (hb hby d16_61)
  have F28 := Fld.same W28 c27
  have N28 := Fr.snoc X28 N16 gs
  have Z28 : n0 ≤ h28.size := Nat.le_trans Z17 (Keep.of_wr W28).1
  have KK28 : Keep h0 h28 [a] := (KK17).wr W28 (Or.inl (List.mem_of_getElem? (i := 0) rfl))
  refine Ds (B := T28.setTop (mkF m 64 #[lR a, lR su, lJ 5, lS, lI 5, lU, lU, lU, lU, lU, lU, lU, lU, lU, lU, lU] [])) (fun _ k => st28 _ k) ?_
  refine Ds (B := T28.setTop (mkF m 67 #[lR a, lR su, lJ 5, lS, lI 5, lU, lU, lU, lU, lU, lU, lU, lU, lU, lU, lU] [(.int 5), (.ref a)])) (fun _ k => XS.aloadN X28.here hx rfl (hb hby d16_64) rfl rfl (XS.iload X28.here hx rfl (hb hby d16_65) rfl k)) ?_
  obtain ⟨T29, h29, k29, X29, e29, E29, A29, Ex29, st29⟩ := newPE X28 hx hZ (hw _ (List.mem_of_getElem? (i := 26) rfl)) e28 (g := (mkF m 67 #[lR a, lR su, lJ 5, lS, lI 5, lU, lU, lU, lU, lU, lU, lU, lU, lU, lU, lU] [(.int 5), (.ref a)])) rfl (hb hby d16_67) rfl (by decide) (cap := 5) (by decide) (by decide) (by decide) (by decide) (ad := "[I") rfl
  have c30 := (Fld.other W28 (Fld.ext E17 c18) (Or.inr (slot_ne (Or.inr (hw _ mm121)) (Or.inr (hw _ mm125)) (by decide) (t := (.array .int)) (t' := (.array .int)) (by decide) (by decide))))
  have c31 := (Exa.wr W28 (Exa.ext E17 c19))
  have c32 := ((c20.ext E17).other W28 (Ne.symm na_u))
  have c33 := ((c21.ext E17).other W28 (Ne.symm na_cc0))
  have c34 := ((c22.ext E17).other W28 (Ne.symm na_cc1))
  have c35 := ((c23.ext E17).other W28 (Ne.symm na_cc2))
  have c36 := ((c24.ext E17).other W28 (Ne.symm ne_a_b3))
  have c37 := ((c25.ext E17).other W28 (Ne.symm ne_a_b7))
  have c38 := (V17.other W28 (Ne.symm ne_a_b17))
  obtain ⟨b29, g29⟩ : ∃ z, z = h28.size := ⟨_, rfl⟩
  rw [← g29] at A29 Ex29 st29
  have ne_a_b29 : a ≠ b29 := Nat.ne_of_lt (Nat.lt_of_lt_of_le c30.lt (Nat.le_of_eq g29.symm))
  have ne_su_b29 : su ≠ b29 := Nat.ne_of_lt (Nat.lt_of_lt_of_le c31.lt (Nat.le_of_eq g29.symm))
  have ne_u_b29 : u ≠ b29 := Nat.ne_of_lt (Nat.lt_of_lt_of_le c32.lt (Nat.le_of_eq g29.symm))
  have ne_cc0_b29 : cc0 ≠ b29 := Nat.ne_of_lt (Nat.lt_of_lt_of_le c33.lt (Nat.le_of_eq g29.symm))
  have ne_cc1_b29 : cc1 ≠ b29 := Nat.ne_of_lt (Nat.lt_of_lt_of_le c34.lt (Nat.le_of_eq g29.symm))
  have ne_cc2_b29 : cc2 ≠ b29 := Nat.ne_of_lt (Nat.lt_of_lt_of_le c35.lt (Nat.le_of_eq g29.symm))
  have ne_b3_b29 : b3 ≠ b29 := Nat.ne_of_lt (Nat.lt_of_lt_of_le c36.lt (Nat.le_of_eq g29.symm))
  have ne_b7_b29 : b7 ≠ b29 := Nat.ne_of_lt (Nat.lt_of_lt_of_le c37.lt (Nat.le_of_eq g29.symm))
  have ne_b17_b29 : b17 ≠ b29 := Nat.ne_of_lt (Nat.lt_of_lt_of_le c38.lt (Nat.le_of_eq g29.symm))
  have ge_b29 : n0 ≤ b29 := Nat.le_trans Z28 (Nat.le_of_eq g29.symm)
  have sz_b29 : h0.size ≤ b29 := Nat.le_trans (KK28).1 (Nat.le_of_eq g29.symm)
  have Z29 : n0 ≤ h29.size := Nat.le_trans Z28 E29.1
  have V29 : Arv Z h29 b29 k29 .int 5 [(.int 0), (.int 0), (.int 0), (.int 0), (.int 0)] (.int 0) := (Arv.new A29 (by decide)).pad (pad_rep [] (.int 0) 5)
  have KK29 : Keep h0 h29 [a] := (KK28).ext E29
  refine Ds (B := T29.setTop (mkF m 69 #[lR a, lR su, lJ 5, lS, lI 5, lU, lU, lU, lU, lU, lU, lU, lU, lU, lU, lU] [(.ref b29), (.ref a)])) (fun _ k => st29 _ k) ?_
  have c39 := (Exa.ext E29 (Exa.wr W28 c26))
  have c40 := (Fld.ext E29 (Fld.other W28 (Fld.ext E17 (Fld.other W16 (Fld.ext E7 (Fld.other W6 (Fld.ext E3 F_firstChildren) (Or.inr (slot_ne (Or.inr (hw _ mm127)) (Or.inr (hw _ mm121)) (by decide) (t := (.array .int)) (t' := (.array .int)) (by decide) (by decide))))) (Or.inr (slot_ne (Or.inr (hw _ mm127)) (Or.inr (hw _ mm123)) (by decide) (t := (.array .int)) (t' := (.array .int)) (by decide) (by decide))))) (Or.inr (slot_ne (Or.inr (hw _ mm127)) (Or.inr (hw _ mm125)) (by decide) (t := (.array .int)) (t' := (.array .int)) (by decide) (by decide)))))
  obtain ⟨T41, h41, X41, e41, W41, st41⟩ := putF X29 hx hZ hown (host := "") (Or.inl (hw _ mm126)) Via.refl e29 c40 c39 (Or.inr ⟨(hw _ mm127), rfl, hnm⟩) (hw _ mm59) (ty := (.array .int)) (by decide) rfl rfl (g := (mkF m 69 #[lR a, lR su, lJ 5, lS, lI 5, lU, lU, lU, lU, lU, lU, lU, lU, lU, lU, lU] [(.ref b29), (.ref a)])) rfl rfl (hb hby d16_69)
  have F41 := Fld.same W41 c40
  have N41 := Fr.snoc X41 N28 gs
  have Z41 : n0 ≤ h41.size := Nat.le_trans Z29 (Keep.of_wr W41).1
  have KK41 : Keep h0 h41 [a] := (KK29).wr W41 (Or.inl (List.mem_of_getElem? (i := 0) rfl))
  refine Ds (B := T41.setTop (mkF m 72 #[lR a, lR su, lJ 5, lS, lI 5, lU, lU, lU, lU, lU, lU, lU, lU, lU, lU, lU] [])) (fun _ k => st41 _ k) ?_
  refine Ds (B := T41.setTop (mkF m 75 #[lR a, lR su, lJ 5, lS, lI 5, lU, lU, lU, lU, lU, lU, lU, lU, lU, lU, lU] [(.int 5), (.ref a)])) (fun _ k => XS.aloadN X41.here hx rfl (hb hby d16_72) rfl rfl (XS.iload X41.here hx rfl (hb hby d16_73) rfl k)) ?_
  obtain ⟨T42, h42, k42, X42, e42, E42, A42, Ex42, st42⟩ := newPE X41 hx hZ (hw _ (List.mem_of_getElem? (i := 26) rfl)) e41 (g := (mkF m 75 #[lR a, lR su, lJ 5, lS, lI 5, lU, lU, lU, lU, lU, lU, lU, lU, lU, lU, lU] [(.int 5), (.ref a)])) rfl (hb hby d16_75) rfl (by decide) (cap := 5) (by decide) (by decide) (by decide) (by decide) (ad := "[I") rfl
  have c43 := (Fld.other W41 (Fld.ext E29 c30) (Or.inr (slot_ne (Or.inr (hw _ mm121)) (Or.inr (hw _ mm127)) (by decide) (t := (.array .int)) (t' := (.array .int)) (by decide) (by decide))))
  have c44 := (Exa.wr W41 (Exa.ext E29 c31))
  have c45 := ((c32.ext E29).other W41 (Ne.symm na_u))
  have c46 := ((c33.ext E29).other W41 (Ne.symm na_cc0))
  have c47 := ((c34.ext E29).other W41 (Ne.symm na_cc1))
  have c48 := ((c35.ext E29).other W41 (Ne.symm na_cc2))
  have c49 := ((c36.ext E29).other W41 (Ne.symm ne_a_b3))
  have c50 := ((c37.ext E29).other W41 (Ne.symm ne_a_b7))
  have c51 := ((c38.ext E29).other W41 (Ne.symm ne_a_b17))
  have c52 := (V29.other W41 (Ne.symm ne_a_b29))
  obtain ⟨b42, g42⟩ : ∃ z, z = h41.size := ⟨_, rfl⟩
  rw [← g42] at A42 Ex42 st42
  have ne_a_b42 : a ≠ b42 := Nat.ne_of_lt (Nat.lt_of_lt_of_le c43.lt (Nat.le_of_eq g42.symm))
  have ne_su_b42 : su ≠ b42 := Nat.ne_of_lt (Nat.lt_of_lt_of_le c44.lt (Nat.le_of_eq g42.symm))
  have ne_u_b42 : u ≠ b42 := Nat.ne_of_lt (Nat.lt_of_lt_of_le c45.lt (Nat.le_of_eq g42.symm))
  have ne_cc0_b42 : cc0 ≠ b42 := Nat.ne_of_lt (Nat.lt_of_lt_of_le c46.lt (Nat.le_of_eq g42.symm))
  have ne_cc1_b42 : cc1 ≠ b42 := Nat.ne_of_lt (Nat.lt_of_lt_of_le c47.lt (Nat.le_of_eq g42.symm))
  have ne_cc2_b42 : cc2 ≠ b42 := Nat.ne_of_lt (Nat.lt_of_lt_of_le c48.lt (Nat.le_of_eq g42.symm))
  have ne_b3_b42 : b3 ≠ b42 := Nat.ne_of_lt (Nat.lt_of_lt_of_le c49.lt (Nat.le_of_eq g42.symm))
  have ne_b7_b42 : b7 ≠ b42 := Nat.ne_of_lt (Nat.lt_of_lt_of_le c50.lt (Nat.le_of_eq g42.symm))
  have ne_b17_b42 : b17 ≠ b42 := Nat.ne_of_lt (Nat.lt_of_lt_of_le c51.lt (Nat.le_of_eq g42.symm))
  have ne_b29_b42 : b29 ≠ b42 := Nat.ne_of_lt (Nat.lt_of_lt_of_le c52.lt (Nat.le_of_eq g42.symm))
  have ge_b42 : n0 ≤ b42 := Nat.le_trans Z41 (Nat.le_of_eq g42.symm)
  have sz_b42 : h0.size ≤ b42 := Nat.le_trans (KK41).1 (Nat.le_of_eq g42.symm)
  have Z42 : n0 ≤ h42.size := Nat.le_trans Z41 E42.1
  have V42 : Arv Z h42 b42 k42 .int 5 [(.int 0), (.int 0), (.int 0), (.int 0), (.int 0)] (.int 0) := (Arv.new A42 (by decide)).pad (pad_rep [] (.int 0) 5)
  have KK42 : Keep h0 h42 [a] := (KK41).ext E42
  refine Ds (B := T42.setTop (mkF m 77 #[lR a, lR su, lJ 5, lS, lI 5, lU, lU, lU, lU, lU, lU, lU, lU, lU, lU, lU] [(.ref b42), (.ref a)])) (fun _ k => st42 _ k) ?_
  have c53 := (Exa.ext E42 (Exa.wr W41 c39))
  have c54 := (Fld.ext E42 (Fld.other W41 (Fld.ext E29 (Fld.other W28 (Fld.ext E17 (Fld.other W16 (Fld.ext E7 (Fld.other W6 (Fld.ext E3 F_nextSiblings) (Or.inr (slot_ne (Or.inr (hw _ mm129)) (Or.inr (hw _ mm121)) (by decide) (t := (.array .int)) (t' := (.array .int)) (by decide) (by decide))))) (Or.inr (slot_ne (Or.inr (hw _ mm129)) (Or.inr (hw _ mm123)) (by decide) (t := (.array .int)) (t' := (.array .int)) (by decide) (by decide))))) (Or.inr (slot_ne (Or.inr (hw _ mm129)) (Or.inr (hw _ mm125)) (by decide) (t := (.array .int)) (t' := (.array .int)) (by decide) (by decide))))) (Or.inr (slot_ne (Or.inr (hw _ mm129)) (Or.inr (hw _ mm127)) (by decide) (t := (.array .int)) (t' := (.array .int)) (by decide) (by decide)))))
  obtain ⟨T55, h55, X55, e55, W55, st55⟩ := putF X42 hx hZ hown (host := "") (Or.inl (hw _ mm128)) Via.refl e42 c54 c53 (Or.inr ⟨(hw _ mm129), rfl, hnm⟩) (hw _ mm59) (ty := (.array .int)) (by decide) rfl rfl (g := (mkF m 77 #[lR a, lR su, lJ 5, lS, lI 5, lU, lU, lU, lU, lU, lU, lU, lU, lU, lU, lU] [(.ref b42), (.ref a)])) rfl rfl (hb hby d16_77)
  have F55 := Fld.same W55 c54
  have N55 := Fr.snoc X55 N41 gs
  have Z55 : n0 ≤ h55.size := Nat.le_trans Z42 (Keep.of_wr W55).1
  have KK55 : Keep h0 h55 [a] := (KK42).wr W55 (Or.inl (List.mem_of_getElem? (i := 0) rfl))
  refine Ds (B := T55.setTop (mkF m 80 #[lR a, lR su, lJ 5, lS, lI 5, lU, lU, lU, lU, lU, lU, lU, lU, lU, lU, lU] [])) (fun _ k => st55 _ k) ?_
  refine Ds (B := T55.setTop (mkF m 81 #[lR a, lR su, lJ 5, lS, lI 5, lU, lU, lU, lU, lU, lU, lU, lU, lU, lU, lU] [(.ref a)])) (fun _ k => XS.aloadN X55.here hx rfl (hb hby d16_80) rfl rfl k) ?_
  have c57 := (Fld.other W55 (Fld.ext E42 c43) (Or.inr (slot_ne (Or.inr (hw _ mm121)) (Or.inr (hw _ mm129)) (by decide) (t := (.array .int)) (t' := (.array .int)) (by decide) (by decide))))
  obtain ⟨T56, X56, e56, st56⟩ := getF X55 hx hZ hown (host := "") (Or.inl (hw _ mm120)) Via.refl e55 c57 (g := (mkF m 81 #[lR a, lR su, lJ 5, lS, lI 5, lU, lU, lU, lU, lU, lU, lU, lU, lU, lU, lU] [(.ref a)])) rfl rfl (hb hby d16_81)
  refine Ds (B := T56.setTop (mkF m 84 #[lR a, lR su, lJ 5, lS, lI 5, lU, lU, lU, lU, lU, lU, lU, lU, lU, lU, lU] [(.ref b3)])) (fun _ k => st56 _ k) ?_
  refine Ds (B := T56.setTop (mkF m 86 #[lR a, lR su, lJ 5, lS, lI 5, lU, lU, lU, lU, lU, lU, lU, lU, lU, lU, lU] [(.int (-1)), (.int 0), (.ref b3)])) (fun _ k => XS.iconst X56.here hx rfl (hb hby d16_84) (XS.iconst X56.here hx rfl (hb hby d16_85) k)) ?_
  have c59 := ((c49.ext E42).other W55 (Ne.symm ne_a_b3))
  obtain ⟨cl58, Ar58, q58, S58, M58, H58, G58⟩ := id c59
  have hin58 : ¬ ((0 : Int32) < 0 ∨ cl58.slots.size ≤ ((0 : Int32)).toNatClampNeg) := inb_of S58 ⟨by decide, by decide⟩
  obtain ⟨T58, h58, X58, e58, W58, st58⟩ := stI X56 hx hZ e56 Ar58 (j := (0 : Int32)) hin58 (g := (mkF m 86 #[lR a, lR su, lJ 5, lS, lI 5, lU, lU, lU, lU, lU, lU, lU, lU, lU, lU, lU] [(.int (-1)), (.int 0), (.ref b3)])) rfl rfl (hb hby d16_86)
  have V58 : Arv Z h58 b3 k3 .int 5 [(.int (-1)), (.int 0), (.int 0), (.int 0), (.int 0)] (.int 0) := Arv.set Ar58 q58 S58 M58 H58 G58 rfl W58 0 rfl (Nat.le_of_ble_eq_true rfl)
  have N58 := Fr.snoc X58 N55 ge_b3
  have Z58 : n0 ≤ h58.size := Nat.le_trans Z55 (Keep.of_wr W58).1
  have KK58 : Keep h0 h58 [a] := (KK55).wr W58 (Or.inr sz_b3)
  refine Ds (B := T58.setTop (mkF m 87 #[lR a, lR su, lJ 5, lS, lI 5, lU, lU, lU, lU, lU, lU, lU, lU, lU, lU, lU] [])) (fun _ k => st58 _ k) ?_
  refine Ds (B := T58.setTop (mkF m 88 #[lR a, lR su, lJ 5, lS, lI 5, lU, lU, lU, lU, lU, lU, lU, lU, lU, lU, lU] [(.ref a)])) (fun _ k => XS.aloadN X58.here hx rfl (hb hby d16_87) rfl rfl k) ?_
  have c61 := (Fld.other W58 (Fld.other W55 (Fld.ext E42 (Fld.other W41 (Fld.ext E29 (Fld.other W28 (Fld.ext E17 F16) (Or.inr (slot_ne (Or.inr (hw _ mm123)) (Or.inr (hw _ mm125)) (by decide) (t := (.array .int)) (t' := (.array .int)) (by decide) (by decide))))) (Or.inr (slot_ne (Or.inr (hw _ mm123)) (Or.inr (hw _ mm127)) (by decide) (t := (.array .int)) (t' := (.array .int)) (by decide) (by decide))))) (Or.inr (slot_ne (Or.inr (hw _ mm123)) (Or.inr (hw _ mm129)) (by decide) (t := (.array .int)) (t' := (.array .int)) (by decide) (by decide)))) (Or.inl ne_a_b3))
  obtain ⟨T60, X60, e60, st60⟩ := getF X58 hx hZ hown (host := "") (Or.inl (hw _ mm122)) Via.refl e58 c61 (g := (mkF m 88 #[lR a, lR su, lJ 5, lS, lI 5, lU, lU, lU, lU, lU, lU, lU, lU, lU, lU, lU] [(.ref a)])) rfl rfl (hb hby d16_88)
  refine Ds (B := T60.setTop (mkF m 91 #[lR a, lR su, lJ 5, lS, lI 5, lU, lU, lU, lU, lU, lU, lU, lU, lU, lU, lU] [(.ref b7)])) (fun _ k => st60 _ k) ?_
  refine Ds (B := T60.setTop (mkF m 93 #[lR a, lR su, lJ 5, lS, lI 5, lU, lU, lU, lU, lU, lU, lU, lU, lU, lU, lU] [(.int (-1)), (.int 0), (.ref b7)])) (fun _ k => XS.iconst X60.here hx rfl (hb hby d16_91) (XS.iconst X60.here hx rfl (hb hby d16_92) k)) ?_
  have c63 := (((c50.ext E42).other W55 (Ne.symm ne_a_b7)).other W58 (Ne.symm ne_b3_b7))
  obtain ⟨cl62, Ar62, q62, S62, M62, H62, G62⟩ := id c63
  have hin62 : ¬ ((0 : Int32) < 0 ∨ cl62.slots.size ≤ ((0 : Int32)).toNatClampNeg) := inb_of S62 ⟨by decide, by decide⟩
  obtain ⟨T62, h62, X62, e62, W62, st62⟩ := stI X60 hx hZ e60 Ar62 (j := (0 : Int32)) hin62 (g := (mkF m 93 #[lR a, lR su, lJ 5, lS, lI 5, lU, lU, lU, lU, lU, lU, lU, lU, lU, lU, lU] [(.int (-1)), (.int 0), (.ref b7)])) rfl rfl (hb hby d16_93)
  have V62 : Arv Z h62 b7 k7 .int 5 [(.int (-1)), (.int 0), (.int 0), (.int 0), (.int 0)] (.int 0) := Arv.set Ar62 q62 S62 M62 H62 G62 rfl W62 0 rfl (Nat.le_of_ble_eq_true rfl)
  have N62 := Fr.snoc X62 N58 ge_b7
  have Z62 : n0 ≤ h62.size := Nat.le_trans Z58 (Keep.of_wr W62).1
  have KK62 : Keep h0 h62 [a] := (KK58).wr W62 (Or.inr sz_b7)
  refine Ds (B := T62.setTop (mkF m 94 #[lR a, lR su, lJ 5, lS, lI 5, lU, lU, lU, lU, lU, lU, lU, lU, lU, lU, lU] [])) (fun _ k => st62 _ k) ?_
  refine Ds (B := T62.setTop (mkF m 95 #[lR a, lR su, lJ 5, lS, lI 5, lU, lU, lU, lU, lU, lU, lU, lU, lU, lU, lU] [(.ref a)])) (fun _ k => XS.aloadN X62.here hx rfl (hb hby d16_94) rfl rfl k) ?_
  have c65 := (Fld.other W62 (Fld.other W58 (Fld.other W55 (Fld.ext E42 F41) (Or.inr (slot_ne (Or.inr (hw _ mm127)) (Or.inr (hw _ mm129)) (by decide) (t := (.array .int)) (t' := (.array .int)) (by decide) (by decide)))) (Or.inl ne_a_b3)) (Or.inl ne_a_b7))
  obtain ⟨T64, X64, e64, st64⟩ := getF X62 hx hZ hown (host := "") (Or.inl (hw _ mm126)) Via.refl e62 c65 (g := (mkF m 95 #[lR a, lR su, lJ 5, lS, lI 5, lU, lU, lU, lU, lU, lU, lU, lU, lU, lU, lU] [(.ref a)])) rfl rfl (hb hby d16_95)
  refine Ds (B := T64.setTop (mkF m 98 #[lR a, lR su, lJ 5, lS, lI 5, lU, lU, lU, lU, lU, lU, lU, lU, lU, lU, lU] [(.ref b29)])) (fun _ k => st64 _ k) ?_
  refine Ds (B := T64.setTop (mkF m 100 #[lR a, lR su, lJ 5, lS, lI 5, lU, lU, lU, lU, lU, lU, lU, lU, lU, lU, lU] [(.int (-1)), (.int 0), (.ref b29)])) (fun _ k => XS.iconst X64.here hx rfl (hb hby d16_98) (XS.iconst X64.here hx rfl (hb hby d16_99) k)) ?_
  have c67 := ((((c52.ext E42).other W55 (Ne.symm ne_a_b29)).other W58 (Ne.symm ne_b3_b29)).other W62 (Ne.symm ne_b7_b29))
  obtain ⟨cl66, Ar66, q66, S66, M66, H66, G66⟩ := id c67
  have hin66 : ¬ ((0 : Int32) < 0 ∨ cl66.slots.size ≤ ((0 : Int32)).toNatClampNeg) := inb_of S66 ⟨by decide, by decide⟩
  obtain ⟨T66, h66, X66, e66, W66, st66⟩ := stI X64 hx hZ e64 Ar66 (j := (0 : Int32)) hin66 (g := (mkF m 100 #[lR a, lR su, lJ 5, lS, lI 5, lU, lU, lU, lU, lU, lU, lU, lU, lU, lU, lU] [(.int (-1)), (.int 0), (.ref b29)])) rfl rfl (hb hby d16_100)
  have V66 : Arv Z h66 b29 k29 .int 5 [(.int (-1)), (.int 0), (.int 0), (.int 0), (.int 0)] (.int 0) := Arv.set Ar66 q66 S66 M66 H66 G66 rfl W66 0 rfl (Nat.le_of_ble_eq_true rfl)
  have N66 := Fr.snoc X66 N62 ge_b29
  have Z66 : n0 ≤ h66.size := Nat.le_trans Z62 (Keep.of_wr W66).1
  have KK66 : Keep h0 h66 [a] := (KK62).wr W66 (Or.inr sz_b29)
  refine Ds (B := T66.setTop (mkF m 101 #[lR a, lR su, lJ 5, lS, lI 5, lU, lU, lU, lU, lU, lU, lU, lU, lU, lU, lU] [])) (fun _ k => st66 _ k) ?_
  refine Ds (B := T66.setTop (mkF m 102 #[lR a, lR su, lJ 5, lS, lI 5, lU, lU, lU, lU, lU, lU, lU, lU, lU, lU, lU] [(.ref a)])) (fun _ k => XS.aloadN X66.here hx rfl (hb hby d16_101) rfl rfl k) ?_
  have c69 := (Fld.other W66 (Fld.other W62 (Fld.other W58 F55 (Or.inl ne_a_b3)) (Or.inl ne_a_b7)) (Or.inl ne_a_b29))
  obtain ⟨T68, X68, e68, st68⟩ := getF X66 hx hZ hown (host := "") (Or.inl (hw _ mm128)) Via.refl e66 c69 (g := (mkF m 102 #[lR a, lR su, lJ 5, lS, lI 5, lU, lU, lU, lU, lU, lU, lU, lU, lU, lU, lU] [(.ref a)])) rfl rfl (hb hby d16_102)
  refine Ds (B := T68.setTop (mkF m 105 #[lR a, lR su, lJ 5, lS, lI 5, lU, lU, lU, lU, lU, lU, lU, lU, lU, lU, lU] [(.ref b42)])) (fun _ k => st68 _ k) ?_
  refine Ds (B := T68.setTop (mkF m 107 #[lR a, lR su, lJ 5, lS, lI 5, lU, lU, lU, lU, lU, lU, lU, lU, lU, lU, lU] [(.int (-1)), (.int 0), (.ref b42)])) (fun _ k => XS.iconst X68.here hx rfl (hb hby d16_105) (XS.iconst X68.here hx rfl (hb hby d16_106) k)) ?_
  have c71 := ((((V42.other W55 (Ne.symm ne_a_b42)).other W58 (Ne.symm ne_b3_b42)).other W62 (Ne.symm ne_b7_b42)).other W66 (Ne.symm ne_b29_b42))
  obtain ⟨cl70, Ar70, q70, S70, M70, H70, G70⟩ := id c71
  have hin70 : ¬ ((0 : Int32) < 0 ∨ cl70.slots.size ≤ ((0 : Int32)).toNatClampNeg) := inb_of S70 ⟨by decide, by decide⟩
  obtain ⟨T70, h70, X70, e70, W70, st70⟩ := stI X68 hx hZ e68 Ar70 (j := (0 : Int32)) hin70 (g := (mkF m 107 #[lR a, lR su, lJ 5, lS, lI 5, lU, lU, lU, lU, lU, lU, lU, lU, lU, lU, lU] [(.int (-1)), (.int 0), (.ref b42)])) rfl rfl (hb hby d16_107)
  have V70 : Arv Z h70 b42 k42 .int 5 [(.int (-1)), (.int 0), (.int 0), (.int 0), (.int 0)] (.int 0) := Arv.set Ar70 q70 S70 M70 H70 G70 rfl W70 0 rfl (Nat.le_of_ble_eq_true rfl)
  have N70 := Fr.snoc X70 N66 ge_b42
  have Z70 : n0 ≤ h70.size := Nat.le_trans Z66 (Keep.of_wr W70).1
  have KK70 : Keep h0 h70 [a] := (KK66).wr W70 (Or.inr sz_b42)
  refine Ds (B := T70.setTop (mkF m 108 #[lR a, lR su, lJ 5, lS, lI 5, lU, lU, lU, lU, lU, lU, lU, lU, lU, lU, lU] [])) (fun _ k => st70 _ k) ?_
  refine Ds (B := T70.setTop (mkF m 112 #[lR a, lR su, lJ 5, lS, lI 5, lI 1, lU, lU, lU, lU, lU, lU, lU, lU, lU, lU] [(.ref su)])) (fun _ k => XS.iconst X70.here hx rfl (hb hby d16_108) (XS.istore X70.here hx rfl (hb hby d16_109) rfl (l' := #[lR a, lR su, lJ 5, lS, lI 5, lI 1, lU, lU, lU, lU, lU, lU, lU, lU, lU, lU]) rfl (XS.aloadN X70.here hx rfl (hb hby d16_111) rfl rfl k))) ?_
  have c72 := (Fld.other W70 (Fld.other W66 (Fld.other W62 (Fld.other W58 (Fld.other W55 (Fld.ext E42 (Fld.other W41 (Fld.ext E29 (Fld.other W28 (Fld.ext E17 (Fld.other W16 (Fld.ext E7 (Fld.other W6 (Fld.ext E3 Ft) (Or.inl (Ne.symm na_su)))) (Or.inl (Ne.symm na_su)))) (Or.inl (Ne.symm na_su)))) (Or.inl (Ne.symm na_su)))) (Or.inl (Ne.symm na_su))) (Or.inl ne_su_b3)) (Or.inl ne_su_b7)) (Or.inl ne_su_b29)) (Or.inl ne_su_b42))
  have c73 := ((((((c45.ext E42).other W55 (Ne.symm na_u)).other W58 ne_u_b3).other W62 ne_u_b7).other W66 ne_u_b29).other W70 ne_u_b42)
  have c75 := (Exa.wr W70 (Exa.wr W66 (Exa.wr W62 (Exa.wr W58 (Exa.wr W55 (Exa.ext E42 c44))))))
  obtain ⟨cq74, kq74, q74a, q74b, q74c⟩ := isOf hZ e70 c75
  obtain ⟨_, _, ⟨T74, L74, k74, n74⟩, -, X74, ⟨Lc74, hQ74, l74, y74, z74⟩, st74⟩ := X70.virtualBack hx (y := (⟨"com/example/percurso/percurso/suite/Suite", "testCount", "()I"⟩ : MethodName)) (z := (⟨"com/example/percurso/percurso/suite/Suite", "testCount", "()I"⟩ : MethodName)) hown (mvT hZ (hw _ mm130)) (mvT hZ (hw _ mm131)) (notFace_of_selects (args := #[]) (mvT hZ (hw _ mm133))) (mvT hZ (hw _ mm133)) (mvT hZ (hw _ mm132)) (by decide) (backOf (W := 0) (rm18 l Z a0 hw [] su u ku [(.ref cc0), (.ref cc1), (.ref cc2)] h70 n0 Z70 c72 c73) hZ (hw _ mm134) (hw _ mm63) (by decide) (by decide)) q74a q74c (g := (mkF m 112 #[lR a, lR su, lJ 5, lS, lI 5, lI 1, lU, lU, lU, lU, lU, lU, lU, lU, lU, lU] [(.ref su)])) rfl (by rw [hml]; rfl) (Steps.refl _) (argsL := []) (rest := []) (lenOf pd_7 rfl) rfl (by show 2 * 0 + _ ≤ _; exact Nat.le_of_eq rfl) (hb hby d16_112) (fun _ _ => ⟨rfl, e70, (by decide : 5 + 0 ≤ _), (by decide : 25 + 0 ≤ _)⟩)
  dsimp only [Pt.U, Pt.locs, Pt.cells, Pt.slots] at X74 l74 y74 z74 st74 hQ74
  rw [l74, y74, z74] at X74
  obtain ⟨hv74, N74q, e74⟩ := hQ74
  rw [hv74] at st74
  have N74 := Fr.app N70 N74q
  refine Ds (B := T74.setTop (mkF m 115 #[lR a, lR su, lJ 5, lS, lI 5, lI 1, lU, lU, lU, lU, lU, lU, lU, lU, lU, lU] [(.int 3)])) (fun _ k => st74.trans k) ?_
  obtain ⟨T76, h76, k76, X76, e76, E76, A76, Ex76, st76⟩ := newPE X74 hx hZ (hw _ (List.mem_of_getElem? (i := 26) rfl)) e74 (g := (mkF m 115 #[lR a, lR su, lJ 5, lS, lI 5, lI 1, lU, lU, lU, lU, lU, lU, lU, lU, lU, lU] [(.int 3)])) rfl (hb hby d16_115) rfl (by decide) (cap := 3) (by decide) (by decide) (by decide) (by decide) (ad := "[I") rfl
  have c77 := (Fld.other W70 (Fld.other W66 (Fld.other W62 (Fld.other W58 c57 (Or.inl ne_a_b3)) (Or.inl ne_a_b7)) (Or.inl ne_a_b29)) (Or.inl ne_a_b42))
  have c78 := ((((((c46.ext E42).other W55 (Ne.symm na_cc0)).other W58 ne_cc0_b3).other W62 ne_cc0_b7).other W66 ne_cc0_b29).other W70 ne_cc0_b42)
  have c79 := ((((((c47.ext E42).other W55 (Ne.symm na_cc1)).other W58 ne_cc1_b3).other W62 ne_cc1_b7).other W66 ne_cc1_b29).other W70 ne_cc1_b42)
  have c80 := ((((((c48.ext E42).other W55 (Ne.symm na_cc2)).other W58 ne_cc2_b3).other W62 ne_cc2_b7).other W66 ne_cc2_b29).other W70 ne_cc2_b42)
  have c81 := (((V58.other W62 ne_b3_b7).other W66 ne_b3_b29).other W70 ne_b3_b42)
  have c82 := ((V62.other W66 ne_b7_b29).other W70 ne_b7_b42)
  have c83 := ((((((c51.ext E42).other W55 (Ne.symm ne_a_b17)).other W58 (Ne.symm ne_b3_b17)).other W62 (Ne.symm ne_b7_b17)).other W66 ne_b17_b29).other W70 ne_b17_b42)
  have c84 := (V66.other W70 ne_b29_b42)
  obtain ⟨b76, g76⟩ : ∃ z, z = h70.size := ⟨_, rfl⟩
  rw [← g76] at A76 Ex76 st76
  have ne_a_b76 : a ≠ b76 := Nat.ne_of_lt (Nat.lt_of_lt_of_le c77.lt (Nat.le_of_eq g76.symm))
  have ne_su_b76 : su ≠ b76 := Nat.ne_of_lt (Nat.lt_of_lt_of_le c75.lt (Nat.le_of_eq g76.symm))
  have ne_u_b76 : u ≠ b76 := Nat.ne_of_lt (Nat.lt_of_lt_of_le c73.lt (Nat.le_of_eq g76.symm))
  have ne_cc0_b76 : cc0 ≠ b76 := Nat.ne_of_lt (Nat.lt_of_lt_of_le c78.lt (Nat.le_of_eq g76.symm))
  have ne_cc1_b76 : cc1 ≠ b76 := Nat.ne_of_lt (Nat.lt_of_lt_of_le c79.lt (Nat.le_of_eq g76.symm))
  have ne_cc2_b76 : cc2 ≠ b76 := Nat.ne_of_lt (Nat.lt_of_lt_of_le c80.lt (Nat.le_of_eq g76.symm))
  have ne_b3_b76 : b3 ≠ b76 := Nat.ne_of_lt (Nat.lt_of_lt_of_le c81.lt (Nat.le_of_eq g76.symm))
  have ne_b7_b76 : b7 ≠ b76 := Nat.ne_of_lt (Nat.lt_of_lt_of_le c82.lt (Nat.le_of_eq g76.symm))
  have ne_b17_b76 : b17 ≠ b76 := Nat.ne_of_lt (Nat.lt_of_lt_of_le c83.lt (Nat.le_of_eq g76.symm))
  have ne_b29_b76 : b29 ≠ b76 := Nat.ne_of_lt (Nat.lt_of_lt_of_le c84.lt (Nat.le_of_eq g76.symm))
  have ne_b42_b76 : b42 ≠ b76 := Nat.ne_of_lt (Nat.lt_of_lt_of_le V70.lt (Nat.le_of_eq g76.symm))
  have ge_b76 : n0 ≤ b76 := Nat.le_trans Z70 (Nat.le_of_eq g76.symm)
  have sz_b76 : h0.size ≤ b76 := Nat.le_trans (KK70).1 (Nat.le_of_eq g76.symm)
  have Z76 : n0 ≤ h76.size := Nat.le_trans Z70 E76.1
  have V76 : Arv Z h76 b76 k76 .int 3 [(.int 0), (.int 0), (.int 0)] (.int 0) := (Arv.new A76 (by decide)).pad (pad_rep [] (.int 0) 3)
  have KK76 : Keep h0 h76 [a] := (KK70).ext E76
  refine Ds (B := T76.setTop (mkF m 117 #[lR a, lR su, lJ 5, lS, lI 5, lI 1, lU, lU, lU, lU, lU, lU, lU, lU, lU, lU] [(.ref b76)])) (fun _ k => st76 _ k) ?_
  refine Ds (B := T76.setTop (mkF m 119 #[lR a, lR su, lJ 5, lS, lI 5, lI 1, lR b76, lU, lU, lU, lU, lU, lU, lU, lU, lU] [])) (fun _ k => XS.astore X76.here hx rfl (hb hby d16_117) rfl rfl (l' := #[lR a, lR su, lJ 5, lS, lI 5, lI 1, lR b76, lU, lU, lU, lU, lU, lU, lU, lU, lU]) rfl k) ?_
  refine Ds (B := T76.setTop (mkF m 120 #[lR a, lR su, lJ 5, lS, lI 5, lI 1, lR b76, lU, lU, lU, lU, lU, lU, lU, lU, lU] [(.ref su)])) (fun _ k => XS.aloadN X76.here hx rfl (hb hby d16_119) rfl rfl k) ?_
  have c85 := (Fld.ext E76 c72)
  have c86 := (c73.ext E76)
  have c88 := (Exa.ext E76 c75)
  obtain ⟨cq87, kq87, q87a, q87b, q87c⟩ := isOf hZ e76 c88
  obtain ⟨_, _, ⟨T87, L87, k87, n87⟩, -, X87, ⟨Lc87, hQ87, l87, y87, z87⟩, st87⟩ := X76.virtualBack hx (y := (⟨"com/example/percurso/percurso/suite/Suite", "testCount", "()I"⟩ : MethodName)) (z := (⟨"com/example/percurso/percurso/suite/Suite", "testCount", "()I"⟩ : MethodName)) hown (mvT hZ (hw _ mm130)) (mvT hZ (hw _ mm131)) (notFace_of_selects (args := #[]) (mvT hZ (hw _ mm133))) (mvT hZ (hw _ mm133)) (mvT hZ (hw _ mm132)) (by decide) (backOf (W := 0) (rm18 l Z a0 hw [] su u ku [(.ref cc0), (.ref cc1), (.ref cc2)] h76 n0 Z76 c85 c86) hZ (hw _ mm134) (hw _ mm63) (by decide) (by decide)) q87a q87c (g := (mkF m 120 #[lR a, lR su, lJ 5, lS, lI 5, lI 1, lR b76, lU, lU, lU, lU, lU, lU, lU, lU, lU] [(.ref su)])) rfl (by rw [hml]; rfl) (Steps.refl _) (argsL := []) (rest := []) (lenOf pd_7 rfl) rfl (by show 2 * 0 + _ ≤ _; exact Nat.le_of_eq rfl) (hb hby d16_120) (fun _ _ => ⟨rfl, e76, (by decide : 6 + 0 ≤ _), (by decide : 28 + 0 ≤ _)⟩)
  dsimp only [Pt.U, Pt.locs, Pt.cells, Pt.slots] at X87 l87 y87 z87 st87 hQ87
  rw [l87, y87, z87] at X87
  obtain ⟨hv87, N87q, e87⟩ := hQ87
  rw [hv87] at st87
  have N87 := Fr.app N74 N87q
  refine Ds (B := T87.setTop (mkF m 123 #[lR a, lR su, lJ 5, lS, lI 5, lI 1, lR b76, lU, lU, lU, lU, lU, lU, lU, lU, lU] [(.int 3)])) (fun _ k => st87.trans k) ?_
  obtain ⟨T89, h89, k89, X89, e89, E89, A89, Ex89, st89⟩ := newPE X87 hx hZ (hw _ (List.mem_of_getElem? (i := 26) rfl)) e87 (g := (mkF m 123 #[lR a, lR su, lJ 5, lS, lI 5, lI 1, lR b76, lU, lU, lU, lU, lU, lU, lU, lU, lU] [(.int 3)])) rfl (hb hby d16_123) rfl (by decide) (cap := 3) (by decide) (by decide) (by decide) (by decide) (ad := "[I") rfl
  have c90 := (Fld.ext E76 c77)
  have c91 := (c78.ext E76)
  have c92 := (c79.ext E76)
  have c93 := (c80.ext E76)
  have c94 := (c81.ext E76)
  have c95 := (c82.ext E76)
  have c96 := (c83.ext E76)
  have c97 := (c84.ext E76)
  have c98 := (V70.ext E76)
  obtain ⟨b89, g89⟩ : ∃ z, z = h76.size := ⟨_, rfl⟩
  rw [← g89] at A89 Ex89 st89
  have ne_a_b89 : a ≠ b89 := Nat.ne_of_lt (Nat.lt_of_lt_of_le c90.lt (Nat.le_of_eq g89.symm))
  have ne_su_b89 : su ≠ b89 := Nat.ne_of_lt (Nat.lt_of_lt_of_le c88.lt (Nat.le_of_eq g89.symm))
  have ne_u_b89 : u ≠ b89 := Nat.ne_of_lt (Nat.lt_of_lt_of_le c86.lt (Nat.le_of_eq g89.symm))
  have ne_cc0_b89 : cc0 ≠ b89 := Nat.ne_of_lt (Nat.lt_of_lt_of_le c91.lt (Nat.le_of_eq g89.symm))
  have ne_cc1_b89 : cc1 ≠ b89 := Nat.ne_of_lt (Nat.lt_of_lt_of_le c92.lt (Nat.le_of_eq g89.symm))
  have ne_cc2_b89 : cc2 ≠ b89 := Nat.ne_of_lt (Nat.lt_of_lt_of_le c93.lt (Nat.le_of_eq g89.symm))
  have ne_b3_b89 : b3 ≠ b89 := Nat.ne_of_lt (Nat.lt_of_lt_of_le c94.lt (Nat.le_of_eq g89.symm))
  have ne_b7_b89 : b7 ≠ b89 := Nat.ne_of_lt (Nat.lt_of_lt_of_le c95.lt (Nat.le_of_eq g89.symm))
  have ne_b17_b89 : b17 ≠ b89 := Nat.ne_of_lt (Nat.lt_of_lt_of_le c96.lt (Nat.le_of_eq g89.symm))
  have ne_b29_b89 : b29 ≠ b89 := Nat.ne_of_lt (Nat.lt_of_lt_of_le c97.lt (Nat.le_of_eq g89.symm))
  have ne_b42_b89 : b42 ≠ b89 := Nat.ne_of_lt (Nat.lt_of_lt_of_le c98.lt (Nat.le_of_eq g89.symm))
  have ne_b76_b89 : b76 ≠ b89 := Nat.ne_of_lt (Nat.lt_of_lt_of_le V76.lt (Nat.le_of_eq g89.symm))
  have ge_b89 : n0 ≤ b89 := Nat.le_trans Z76 (Nat.le_of_eq g89.symm)
  have sz_b89 : h0.size ≤ b89 := Nat.le_trans (KK76).1 (Nat.le_of_eq g89.symm)
  have Z89 : n0 ≤ h89.size := Nat.le_trans Z76 E89.1
  have V89 : Arv Z h89 b89 k89 .int 3 [(.int 0), (.int 0), (.int 0)] (.int 0) := (Arv.new A89 (by decide)).pad (pad_rep [] (.int 0) 3)
  have KK89 : Keep h0 h89 [a] := (KK76).ext E89
  refine Ds (B := T89.setTop (mkF m 125 #[lR a, lR su, lJ 5, lS, lI 5, lI 1, lR b76, lU, lU, lU, lU, lU, lU, lU, lU, lU] [(.ref b89)])) (fun _ k => st89 _ k) ?_
  refine Ds (B := T89.setTop (mkF m 127 #[lR a, lR su, lJ 5, lS, lI 5, lI 1, lR b76, lR b89, lU, lU, lU, lU, lU, lU, lU, lU] [])) (fun _ k => XS.astore X89.here hx rfl (hb hby d16_125) rfl rfl (l' := #[lR a, lR su, lJ 5, lS, lI 5, lI 1, lR b76, lR b89, lU, lU, lU, lU, lU, lU, lU, lU]) rfl k) ?_
  refine Ds (B := T89.setTop (mkF m 136 #[lR a, lR su, lJ 5, lS, lI 5, lI 1, lR b76, lR b89, lI 0, lI 0, lU, lU, lU, lU, lU, lU] [(.ref su), (.int 0)])) (fun _ k => XS.iconst X89.here hx rfl (hb hby d16_127) (XS.istore X89.here hx rfl (hb hby d16_128) rfl (l' := #[lR a, lR su, lJ 5, lS, lI 5, lI 1, lR b76, lR b89, lI 0, lU, lU, lU, lU, lU, lU, lU]) rfl (XS.iconst X89.here hx rfl (hb hby d16_130) (XS.istore X89.here hx rfl (hb hby d16_131) rfl (l' := #[lR a, lR su, lJ 5, lS, lI 5, lI 1, lR b76, lR b89, lI 0, lI 0, lU, lU, lU, lU, lU, lU]) rfl (XS.iload X89.here hx rfl (hb hby d16_133) rfl (XS.aloadN X89.here hx rfl (hb hby d16_135) rfl rfl k)))))) ?_
  have c99 := (Fld.ext E89 c85)
  have c100 := (c86.ext E89)
  have c102 := (Exa.ext E89 c88)
  obtain ⟨cq101, kq101, q101a, q101b, q101c⟩ := isOf hZ e89 c102
  obtain ⟨_, _, ⟨T101, L101, k101, n101⟩, -, X101, ⟨Lc101, hQ101, l101, y101, z101⟩, st101⟩ := X89.virtualBack hx (y := (⟨"com/example/percurso/percurso/suite/Suite", "testCount", "()I"⟩ : MethodName)) (z := (⟨"com/example/percurso/percurso/suite/Suite", "testCount", "()I"⟩ : MethodName)) hown (mvT hZ (hw _ mm130)) (mvT hZ (hw _ mm131)) (notFace_of_selects (args := #[]) (mvT hZ (hw _ mm133))) (mvT hZ (hw _ mm133)) (mvT hZ (hw _ mm132)) (by decide) (backOf (W := 1) (rm18 l Z a0 hw [] su u ku [(.ref cc0), (.ref cc1), (.ref cc2)] h89 n0 Z89 c99 c100) hZ (hw _ mm134) (hw _ mm63) (by decide) (by decide)) q101a q101c (g := (mkF m 136 #[lR a, lR su, lJ 5, lS, lI 5, lI 1, lR b76, lR b89, lI 0, lI 0, lU, lU, lU, lU, lU, lU] [(.ref su), (.int 0)])) rfl (by rw [hml]; rfl) (Steps.refl _) (argsL := []) (rest := [(.int 0)]) (lenOf pd_7 rfl) rfl (by show 2 * 0 + _ ≤ _; exact Nat.le_of_eq rfl) (hb hby d16_136) (fun _ _ => ⟨rfl, e89, (by decide : 7 + 0 ≤ _), (by decide : 31 + 0 ≤ _)⟩)
  dsimp only [Pt.U, Pt.locs, Pt.cells, Pt.slots] at X101 l101 y101 z101 st101 hQ101
  rw [l101, y101, z101] at X101
  obtain ⟨hv101, N101q, e101⟩ := hQ101
  rw [hv101] at st101
  have N101 := Fr.app N87 N101q
  refine Ds (B := T101.setTop (mkF m 139 #[lR a, lR su, lJ 5, lS, lI 5, lI 1, lR b76, lR b89, lI 0, lI 0, lU, lU, lU, lU, lU, lU] [(.int 3), (.int 0)])) (fun _ k => st101.trans k) ?_
  refine Ds (B := T101.setTop (mkF m 145 #[lR a, lR su, lJ 5, lS, lI 5, lI 1, lR b76, lR b89, lI 0, lI 0, lU, lU, lU, lU, lU, lU] [(.int 0), (.ref su)])) (fun _ k => XS.icmpNo X101.here hx rfl (hb hby d16_139) rfl (tlt (by decide : (0 : Int32) < (3 : Int32))).2.1 (XS.aloadN X101.here hx rfl (hb hby d16_142) rfl rfl (XS.iload X101.here hx rfl (hb hby d16_143) rfl k))) ?_
  have c103 := (c91.ext E89)
  obtain ⟨cq104, kq104, q104a, q104b, q104c⟩ := isOf hZ e101 c102
  obtain ⟨_, _, ⟨T104, L104, k104, n104⟩, -, X104, ⟨Lc104, hQ104, l104, y104, z104⟩, st104⟩ := X101.virtualBack hx (y := (⟨"com/example/percurso/percurso/suite/Suite", "length", "(I)I"⟩ : MethodName)) (z := (⟨"com/example/percurso/percurso/suite/Suite", "length", "(I)I"⟩ : MethodName)) hown (mvT hZ (hw _ mm135)) (mvT hZ (hw _ mm136)) (notFace_of_selects (args := #[]) (mvT hZ (hw _ mm138))) (mvT hZ (hw _ mm138)) (mvT hZ (hw _ mm137)) (by decide) (backOf (W := 0) (rm19 l Z a0 hw [] su (0 : Int32) u ku [(.ref cc0), (.ref cc1), (.ref cc2)] cc0 kel0 (2 : Int32) [(.int va), (.int vd)] h89 n0 Z89 c99 c100 ⟨by decide, by decide⟩ rfl c103) hZ (hw _ mm139) (hw _ mm63) (by decide) (by decide)) q104a q104c (g := (mkF m 145 #[lR a, lR su, lJ 5, lS, lI 5, lI 1, lR b76, lR b89, lI 0, lI 0, lU, lU, lU, lU, lU, lU] [(.int 0), (.ref su)])) rfl (by rw [hml]; rfl) (Steps.refl _) (argsL := [(.int 0)]) (rest := []) (lenOf pd_9 rfl) rfl (by show 2 * 0 + _ ≤ _; exact Nat.le_of_eq rfl) (hb hby d16_145) (fun _ _ => ⟨rfl, e101, (by decide : 7 + 0 ≤ _), (by decide : 31 + 0 ≤ _)⟩)
  dsimp only [Pt.U, Pt.locs, Pt.cells, Pt.slots] at X104 l104 y104 z104 st104 hQ104
  rw [l104, y104, z104] at X104
  obtain ⟨hv104, N104q, e104⟩ := hQ104
  rw [hv104] at st104
  have N104 := Fr.app N101 N104q
  refine Ds (B := T104.setTop (mkF m 148 #[lR a, lR su, lJ 5, lS, lI 5, lI 1, lR b76, lR b89, lI 0, lI 0, lU, lU, lU, lU, lU, lU] [(.int 2)])) (fun _ k => st104.trans k) ?_
  refine Ds (B := T104.setTop (mkF m 151 #[lR a, lR su, lJ 5, lS, lI 5, lI 1, lR b76, lR b89, lI 0, lI 0, lU, lU, lU, lU, lU, lU] [])) (fun _ k => XS.ifNo X104.here hx rfl (hb hby d16_148) rfl ((if0 _ _).trans (tlt (by decide : (0 : Int32) < (2 : Int32))).2.2.2) k) ?_
  refine Ds (B := T104.setTop (mkF m 160 #[lR a, lR su, lJ 5, lS, lI 5, lI 1, lR b76, lR b89, lI 1, lI 0, lU, lU, lU, lU, lU, lU] [(.int 0), (.int 0), (.ref b76)])) (fun _ k => XS.aload X104.here hx rfl (hb hby d16_151) rfl rfl (XS.iload X104.here hx rfl (hb hby d16_153) rfl (XS.iinc X104.here hx rfl (hb hby d16_155) rfl (l' := #[lR a, lR su, lJ 5, lS, lI 5, lI 1, lR b76, lR b89, lI 1, lI 0, lU, lU, lU, lU, lU, lU]) rfl (XS.iload X104.here hx rfl (hb hby d16_158) rfl k)))) ?_
  have c106 := (V76.ext E89)
  obtain ⟨cl105, Ar105, q105, S105, M105, H105, G105⟩ := id c106
  have hin105 : ¬ ((0 : Int32) < 0 ∨ cl105.slots.size ≤ ((0 : Int32)).toNatClampNeg) := inb_of S105 ⟨by decide, by decide⟩
  obtain ⟨T105, h105, X105, e105, W105, st105⟩ := stI X104 hx hZ e104 Ar105 (j := (0 : Int32)) hin105 (g := (mkF m 160 #[lR a, lR su, lJ 5, lS, lI 5, lI 1, lR b76, lR b89, lI 1, lI 0, lU, lU, lU, lU, lU, lU] [(.int 0), (.int 0), (.ref b76)])) rfl rfl (hb hby d16_160)
  have V105 : Arv Z h105 b76 k76 .int 3 [(.int 0), (.int 0), (.int 0)] (.int 0) := Arv.set Ar105 q105 S105 M105 H105 G105 rfl W105 0 rfl (Nat.le_of_ble_eq_true rfl)
  have N105 := Fr.snoc X105 N104 ge_b76
  have Z105 : n0 ≤ h105.size := Nat.le_trans Z89 (Keep.of_wr W105).1
  have KK105 : Keep h0 h105 [a] := (KK89).wr W105 (Or.inr sz_b76)
  refine Ds (B := T105.setTop (mkF m 161 #[lR a, lR su, lJ 5, lS, lI 5, lI 1, lR b76, lR b89, lI 1, lI 0, lU, lU, lU, lU, lU, lU] [])) (fun _ k => st105 _ k) ?_
  refine Ds (B := T105.setTop (mkF m 136 #[lR a, lR su, lJ 5, lS, lI 5, lI 1, lR b76, lR b89, lI 1, lI 1, lU, lU, lU, lU, lU, lU] [(.ref su), (.int 1)])) (fun _ k => XS.iinc X105.here hx rfl (hb hby d16_161) rfl (l' := #[lR a, lR su, lJ 5, lS, lI 5, lI 1, lR b76, lR b89, lI 1, lI 1, lU, lU, lU, lU, lU, lU]) rfl (XS.goto X105.here hx rfl (pc0 := 164) (pc' := 133) rfl (hb hby d16_164) (by decide) (by decide) (XS.iload X105.here hx rfl (hb hby d16_133) rfl (XS.aloadN X105.here hx rfl (hb hby d16_135) rfl rfl k)))) ?_
  have c107 := (Fld.other W105 c99 (Or.inl ne_su_b76))
  have c108 := (c100.other W105 ne_u_b76)
  have c110 := (Exa.wr W105 c102)
  obtain ⟨cq109, kq109, q109a, q109b, q109c⟩ := isOf hZ e105 c110
  obtain ⟨_, _, ⟨T109, L109, k109, n109⟩, -, X109, ⟨Lc109, hQ109, l109, y109, z109⟩, st109⟩ := X105.virtualBack hx (y := (⟨"com/example/percurso/percurso/suite/Suite", "testCount", "()I"⟩ : MethodName)) (z := (⟨"com/example/percurso/percurso/suite/Suite", "testCount", "()I"⟩ : MethodName)) hown (mvT hZ (hw _ mm130)) (mvT hZ (hw _ mm131)) (notFace_of_selects (args := #[]) (mvT hZ (hw _ mm133))) (mvT hZ (hw _ mm133)) (mvT hZ (hw _ mm132)) (by decide) (backOf (W := 1) (rm18 l Z a0 hw [] su u ku [(.ref cc0), (.ref cc1), (.ref cc2)] h105 n0 Z105 c107 c108) hZ (hw _ mm134) (hw _ mm63) (by decide) (by decide)) q109a q109c (g := (mkF m 136 #[lR a, lR su, lJ 5, lS, lI 5, lI 1, lR b76, lR b89, lI 1, lI 1, lU, lU, lU, lU, lU, lU] [(.ref su), (.int 1)])) rfl (by rw [hml]; rfl) (Steps.refl _) (argsL := []) (rest := [(.int 1)]) (lenOf pd_7 rfl) rfl (by show 2 * 0 + _ ≤ _; exact Nat.le_of_eq rfl) (hb hby d16_136) (fun _ _ => ⟨rfl, e105, (by decide : 7 + 0 ≤ _), (by decide : 31 + 0 ≤ _)⟩)
  dsimp only [Pt.U, Pt.locs, Pt.cells, Pt.slots] at X109 l109 y109 z109 st109 hQ109
  rw [l109, y109, z109] at X109
  obtain ⟨hv109, N109q, e109⟩ := hQ109
  rw [hv109] at st109
  have N109 := Fr.app N105 N109q
  refine Ds (B := T109.setTop (mkF m 139 #[lR a, lR su, lJ 5, lS, lI 5, lI 1, lR b76, lR b89, lI 1, lI 1, lU, lU, lU, lU, lU, lU] [(.int 3), (.int 1)])) (fun _ k => st109.trans k) ?_
  refine Ds (B := T109.setTop (mkF m 145 #[lR a, lR su, lJ 5, lS, lI 5, lI 1, lR b76, lR b89, lI 1, lI 1, lU, lU, lU, lU, lU, lU] [(.int 1), (.ref su)])) (fun _ k => XS.icmpNo X109.here hx rfl (hb hby d16_139) rfl (tlt (by decide : (1 : Int32) < (3 : Int32))).2.1 (XS.aloadN X109.here hx rfl (hb hby d16_142) rfl rfl (XS.iload X109.here hx rfl (hb hby d16_143) rfl k))) ?_
  have c111 := ((c92.ext E89).other W105 ne_cc1_b76)
  obtain ⟨cq112, kq112, q112a, q112b, q112c⟩ := isOf hZ e109 c110
  obtain ⟨_, _, ⟨T112, L112, k112, n112⟩, -, X112, ⟨Lc112, hQ112, l112, y112, z112⟩, st112⟩ := X109.virtualBack hx (y := (⟨"com/example/percurso/percurso/suite/Suite", "length", "(I)I"⟩ : MethodName)) (z := (⟨"com/example/percurso/percurso/suite/Suite", "length", "(I)I"⟩ : MethodName)) hown (mvT hZ (hw _ mm135)) (mvT hZ (hw _ mm136)) (notFace_of_selects (args := #[]) (mvT hZ (hw _ mm138))) (mvT hZ (hw _ mm138)) (mvT hZ (hw _ mm137)) (by decide) (backOf (W := 0) (rm19 l Z a0 hw [] su (1 : Int32) u ku [(.ref cc0), (.ref cc1), (.ref cc2)] cc1 kel1 (1 : Int32) [(.int vb)] h105 n0 Z105 c107 c108 ⟨by decide, by decide⟩ rfl c111) hZ (hw _ mm139) (hw _ mm63) (by decide) (by decide)) q112a q112c (g := (mkF m 145 #[lR a, lR su, lJ 5, lS, lI 5, lI 1, lR b76, lR b89, lI 1, lI 1, lU, lU, lU, lU, lU, lU] [(.int 1), (.ref su)])) rfl (by rw [hml]; rfl) (Steps.refl _) (argsL := [(.int 1)]) (rest := []) (lenOf pd_9 rfl) rfl (by show 2 * 0 + _ ≤ _; exact Nat.le_of_eq rfl) (hb hby d16_145) (fun _ _ => ⟨rfl, e109, (by decide : 7 + 0 ≤ _), (by decide : 31 + 0 ≤ _)⟩)
  dsimp only [Pt.U, Pt.locs, Pt.cells, Pt.slots] at X112 l112 y112 z112 st112 hQ112
  rw [l112, y112, z112] at X112
  obtain ⟨hv112, N112q, e112⟩ := hQ112
  rw [hv112] at st112
  have N112 := Fr.app N109 N112q
  refine Ds (B := T112.setTop (mkF m 148 #[lR a, lR su, lJ 5, lS, lI 5, lI 1, lR b76, lR b89, lI 1, lI 1, lU, lU, lU, lU, lU, lU] [(.int 1)])) (fun _ k => st112.trans k) ?_
  refine Ds (B := T112.setTop (mkF m 151 #[lR a, lR su, lJ 5, lS, lI 5, lI 1, lR b76, lR b89, lI 1, lI 1, lU, lU, lU, lU, lU, lU] [])) (fun _ k => XS.ifNo X112.here hx rfl (hb hby d16_148) rfl ((if0 _ _).trans (tlt (by decide : (0 : Int32) < (1 : Int32))).2.2.2) k) ?_
  refine Ds (B := T112.setTop (mkF m 160 #[lR a, lR su, lJ 5, lS, lI 5, lI 1, lR b76, lR b89, lI 2, lI 1, lU, lU, lU, lU, lU, lU] [(.int 1), (.int 1), (.ref b76)])) (fun _ k => XS.aload X112.here hx rfl (hb hby d16_151) rfl rfl (XS.iload X112.here hx rfl (hb hby d16_153) rfl (XS.iinc X112.here hx rfl (hb hby d16_155) rfl (l' := #[lR a, lR su, lJ 5, lS, lI 5, lI 1, lR b76, lR b89, lI 2, lI 1, lU, lU, lU, lU, lU, lU]) rfl (XS.iload X112.here hx rfl (hb hby d16_158) rfl k)))) ?_
  obtain ⟨cl113, Ar113, q113, S113, M113, H113, G113⟩ := id V105
  have hin113 : ¬ ((1 : Int32) < 0 ∨ cl113.slots.size ≤ ((1 : Int32)).toNatClampNeg) := inb_of S113 ⟨by decide, by decide⟩
  obtain ⟨T113, h113, X113, e113, W113, st113⟩ := stI X112 hx hZ e112 Ar113 (j := (1 : Int32)) hin113 (g := (mkF m 160 #[lR a, lR su, lJ 5, lS, lI 5, lI 1, lR b76, lR b89, lI 2, lI 1, lU, lU, lU, lU, lU, lU] [(.int 1), (.int 1), (.ref b76)])) rfl rfl (hb hby d16_160)
  have V113 : Arv Z h113 b76 k76 .int 3 [(.int 0), (.int 1), (.int 0)] (.int 0) := Arv.set Ar113 q113 S113 M113 H113 G113 rfl W113 1 rfl (Nat.le_of_ble_eq_true rfl)
  have N113 := Fr.snoc X113 N112 ge_b76
  have Z113 : n0 ≤ h113.size := Nat.le_trans Z105 (Keep.of_wr W113).1
  have KK113 : Keep h0 h113 [a] := (KK105).wr W113 (Or.inr sz_b76)
  refine Ds (B := T113.setTop (mkF m 161 #[lR a, lR su, lJ 5, lS, lI 5, lI 1, lR b76, lR b89, lI 2, lI 1, lU, lU, lU, lU, lU, lU] [])) (fun _ k => st113 _ k) ?_
  refine Ds (B := T113.setTop (mkF m 136 #[lR a, lR su, lJ 5, lS, lI 5, lI 1, lR b76, lR b89, lI 2, lI 2, lU, lU, lU, lU, lU, lU] [(.ref su), (.int 2)])) (fun _ k => XS.iinc X113.here hx rfl (hb hby d16_161) rfl (l' := #[lR a, lR su, lJ 5, lS, lI 5, lI 1, lR b76, lR b89, lI 2, lI 2, lU, lU, lU, lU, lU, lU]) rfl (XS.goto X113.here hx rfl (pc0 := 164) (pc' := 133) rfl (hb hby d16_164) (by decide) (by decide) (XS.iload X113.here hx rfl (hb hby d16_133) rfl (XS.aloadN X113.here hx rfl (hb hby d16_135) rfl rfl k)))) ?_
  have c114 := (Fld.other W113 c107 (Or.inl ne_su_b76))
  have c115 := (c108.other W113 ne_u_b76)
  have c117 := (Exa.wr W113 c110)
  obtain ⟨cq116, kq116, q116a, q116b, q116c⟩ := isOf hZ e113 c117
  obtain ⟨_, _, ⟨T116, L116, k116, n116⟩, -, X116, ⟨Lc116, hQ116, l116, y116, z116⟩, st116⟩ := X113.virtualBack hx (y := (⟨"com/example/percurso/percurso/suite/Suite", "testCount", "()I"⟩ : MethodName)) (z := (⟨"com/example/percurso/percurso/suite/Suite", "testCount", "()I"⟩ : MethodName)) hown (mvT hZ (hw _ mm130)) (mvT hZ (hw _ mm131)) (notFace_of_selects (args := #[]) (mvT hZ (hw _ mm133))) (mvT hZ (hw _ mm133)) (mvT hZ (hw _ mm132)) (by decide) (backOf (W := 1) (rm18 l Z a0 hw [] su u ku [(.ref cc0), (.ref cc1), (.ref cc2)] h113 n0 Z113 c114 c115) hZ (hw _ mm134) (hw _ mm63) (by decide) (by decide)) q116a q116c (g := (mkF m 136 #[lR a, lR su, lJ 5, lS, lI 5, lI 1, lR b76, lR b89, lI 2, lI 2, lU, lU, lU, lU, lU, lU] [(.ref su), (.int 2)])) rfl (by rw [hml]; rfl) (Steps.refl _) (argsL := []) (rest := [(.int 2)]) (lenOf pd_7 rfl) rfl (by show 2 * 0 + _ ≤ _; exact Nat.le_of_eq rfl) (hb hby d16_136) (fun _ _ => ⟨rfl, e113, (by decide : 7 + 0 ≤ _), (by decide : 31 + 0 ≤ _)⟩)
  dsimp only [Pt.U, Pt.locs, Pt.cells, Pt.slots] at X116 l116 y116 z116 st116 hQ116
  rw [l116, y116, z116] at X116
  obtain ⟨hv116, N116q, e116⟩ := hQ116
  rw [hv116] at st116
  have N116 := Fr.app N113 N116q
  refine Ds (B := T116.setTop (mkF m 139 #[lR a, lR su, lJ 5, lS, lI 5, lI 1, lR b76, lR b89, lI 2, lI 2, lU, lU, lU, lU, lU, lU] [(.int 3), (.int 2)])) (fun _ k => st116.trans k) ?_
  refine Ds (B := T116.setTop (mkF m 145 #[lR a, lR su, lJ 5, lS, lI 5, lI 1, lR b76, lR b89, lI 2, lI 2, lU, lU, lU, lU, lU, lU] [(.int 2), (.ref su)])) (fun _ k => XS.icmpNo X116.here hx rfl (hb hby d16_139) rfl (tlt (by decide : (2 : Int32) < (3 : Int32))).2.1 (XS.aloadN X116.here hx rfl (hb hby d16_142) rfl rfl (XS.iload X116.here hx rfl (hb hby d16_143) rfl k))) ?_
  have c118 := (((c93.ext E89).other W105 ne_cc2_b76).other W113 ne_cc2_b76)
  obtain ⟨cq119, kq119, q119a, q119b, q119c⟩ := isOf hZ e116 c117
  obtain ⟨_, _, ⟨T119, L119, k119, n119⟩, -, X119, ⟨Lc119, hQ119, l119, y119, z119⟩, st119⟩ := X116.virtualBack hx (y := (⟨"com/example/percurso/percurso/suite/Suite", "length", "(I)I"⟩ : MethodName)) (z := (⟨"com/example/percurso/percurso/suite/Suite", "length", "(I)I"⟩ : MethodName)) hown (mvT hZ (hw _ mm135)) (mvT hZ (hw _ mm136)) (notFace_of_selects (args := #[]) (mvT hZ (hw _ mm138))) (mvT hZ (hw _ mm138)) (mvT hZ (hw _ mm137)) (by decide) (backOf (W := 0) (rm19 l Z a0 hw [] su (2 : Int32) u ku [(.ref cc0), (.ref cc1), (.ref cc2)] cc2 kel2 (1 : Int32) [(.int vc)] h113 n0 Z113 c114 c115 ⟨by decide, by decide⟩ rfl c118) hZ (hw _ mm139) (hw _ mm63) (by decide) (by decide)) q119a q119c (g := (mkF m 145 #[lR a, lR su, lJ 5, lS, lI 5, lI 1, lR b76, lR b89, lI 2, lI 2, lU, lU, lU, lU, lU, lU] [(.int 2), (.ref su)])) rfl (by rw [hml]; rfl) (Steps.refl _) (argsL := [(.int 2)]) (rest := []) (lenOf pd_9 rfl) rfl (by show 2 * 0 + _ ≤ _; exact Nat.le_of_eq rfl) (hb hby d16_145) (fun _ _ => ⟨rfl, e116, (by decide : 7 + 0 ≤ _), (by decide : 31 + 0 ≤ _)⟩)
  dsimp only [Pt.U, Pt.locs, Pt.cells, Pt.slots] at X119 l119 y119 z119 st119 hQ119
  rw [l119, y119, z119] at X119
  obtain ⟨hv119, N119q, e119⟩ := hQ119
  rw [hv119] at st119
  have N119 := Fr.app N116 N119q
  refine Ds (B := T119.setTop (mkF m 148 #[lR a, lR su, lJ 5, lS, lI 5, lI 1, lR b76, lR b89, lI 2, lI 2, lU, lU, lU, lU, lU, lU] [(.int 1)])) (fun _ k => st119.trans k) ?_
  refine Ds (B := T119.setTop (mkF m 151 #[lR a, lR su, lJ 5, lS, lI 5, lI 1, lR b76, lR b89, lI 2, lI 2, lU, lU, lU, lU, lU, lU] [])) (fun _ k => XS.ifNo X119.here hx rfl (hb hby d16_148) rfl ((if0 _ _).trans (tlt (by decide : (0 : Int32) < (1 : Int32))).2.2.2) k) ?_
  refine Ds (B := T119.setTop (mkF m 160 #[lR a, lR su, lJ 5, lS, lI 5, lI 1, lR b76, lR b89, lI 3, lI 2, lU, lU, lU, lU, lU, lU] [(.int 2), (.int 2), (.ref b76)])) (fun _ k => XS.aload X119.here hx rfl (hb hby d16_151) rfl rfl (XS.iload X119.here hx rfl (hb hby d16_153) rfl (XS.iinc X119.here hx rfl (hb hby d16_155) rfl (l' := #[lR a, lR su, lJ 5, lS, lI 5, lI 1, lR b76, lR b89, lI 3, lI 2, lU, lU, lU, lU, lU, lU]) rfl (XS.iload X119.here hx rfl (hb hby d16_158) rfl k)))) ?_
  obtain ⟨cl120, Ar120, q120, S120, M120, H120, G120⟩ := id V113
  have hin120 : ¬ ((2 : Int32) < 0 ∨ cl120.slots.size ≤ ((2 : Int32)).toNatClampNeg) := inb_of S120 ⟨by decide, by decide⟩
  obtain ⟨T120, h120, X120, e120, W120, st120⟩ := stI X119 hx hZ e119 Ar120 (j := (2 : Int32)) hin120 (g := (mkF m 160 #[lR a, lR su, lJ 5, lS, lI 5, lI 1, lR b76, lR b89, lI 3, lI 2, lU, lU, lU, lU, lU, lU] [(.int 2), (.int 2), (.ref b76)])) rfl rfl (hb hby d16_160)
  have V120 : Arv Z h120 b76 k76 .int 3 [(.int 0), (.int 1), (.int 2)] (.int 0) := Arv.set Ar120 q120 S120 M120 H120 G120 rfl W120 2 rfl (Nat.le_of_ble_eq_true rfl)
  have N120 := Fr.snoc X120 N119 ge_b76
  have Z120 : n0 ≤ h120.size := Nat.le_trans Z113 (Keep.of_wr W120).1
  have KK120 : Keep h0 h120 [a] := (KK113).wr W120 (Or.inr sz_b76)
  refine Ds (B := T120.setTop (mkF m 161 #[lR a, lR su, lJ 5, lS, lI 5, lI 1, lR b76, lR b89, lI 3, lI 2, lU, lU, lU, lU, lU, lU] [])) (fun _ k => st120 _ k) ?_
  refine Ds (B := T120.setTop (mkF m 136 #[lR a, lR su, lJ 5, lS, lI 5, lI 1, lR b76, lR b89, lI 3, lI 3, lU, lU, lU, lU, lU, lU] [(.ref su), (.int 3)])) (fun _ k => XS.iinc X120.here hx rfl (hb hby d16_161) rfl (l' := #[lR a, lR su, lJ 5, lS, lI 5, lI 1, lR b76, lR b89, lI 3, lI 3, lU, lU, lU, lU, lU, lU]) rfl (XS.goto X120.here hx rfl (pc0 := 164) (pc' := 133) rfl (hb hby d16_164) (by decide) (by decide) (XS.iload X120.here hx rfl (hb hby d16_133) rfl (XS.aloadN X120.here hx rfl (hb hby d16_135) rfl rfl k)))) ?_
  have c121 := (Fld.other W120 c114 (Or.inl ne_su_b76))
  have c122 := (c115.other W120 ne_u_b76)
  have c124 := (Exa.wr W120 c117)
  obtain ⟨cq123, kq123, q123a, q123b, q123c⟩ := isOf hZ e120 c124
  obtain ⟨_, _, ⟨T123, L123, k123, n123⟩, -, X123, ⟨Lc123, hQ123, l123, y123, z123⟩, st123⟩ := X120.virtualBack hx (y := (⟨"com/example/percurso/percurso/suite/Suite", "testCount", "()I"⟩ : MethodName)) (z := (⟨"com/example/percurso/percurso/suite/Suite", "testCount", "()I"⟩ : MethodName)) hown (mvT hZ (hw _ mm130)) (mvT hZ (hw _ mm131)) (notFace_of_selects (args := #[]) (mvT hZ (hw _ mm133))) (mvT hZ (hw _ mm133)) (mvT hZ (hw _ mm132)) (by decide) (backOf (W := 1) (rm18 l Z a0 hw [] su u ku [(.ref cc0), (.ref cc1), (.ref cc2)] h120 n0 Z120 c121 c122) hZ (hw _ mm134) (hw _ mm63) (by decide) (by decide)) q123a q123c (g := (mkF m 136 #[lR a, lR su, lJ 5, lS, lI 5, lI 1, lR b76, lR b89, lI 3, lI 3, lU, lU, lU, lU, lU, lU] [(.ref su), (.int 3)])) rfl (by rw [hml]; rfl) (Steps.refl _) (argsL := []) (rest := [(.int 3)]) (lenOf pd_7 rfl) rfl (by show 2 * 0 + _ ≤ _; exact Nat.le_of_eq rfl) (hb hby d16_136) (fun _ _ => ⟨rfl, e120, (by decide : 7 + 0 ≤ _), (by decide : 31 + 0 ≤ _)⟩)
  dsimp only [Pt.U, Pt.locs, Pt.cells, Pt.slots] at X123 l123 y123 z123 st123 hQ123
  rw [l123, y123, z123] at X123
  obtain ⟨hv123, N123q, e123⟩ := hQ123
  rw [hv123] at st123
  have N123 := Fr.app N120 N123q
  refine Ds (B := T123.setTop (mkF m 139 #[lR a, lR su, lJ 5, lS, lI 5, lI 1, lR b76, lR b89, lI 3, lI 3, lU, lU, lU, lU, lU, lU] [(.int 3), (.int 3)])) (fun _ k => st123.trans k) ?_
  refine Ds (B := T123.setTop (mkF m 175 #[lR a, lR su, lJ 5, lS, lI 5, lI 1, lR b76, lR b89, lI 3, lI 0, lU, lU, lU, lU, lU, lU] [])) (fun _ k => XS.icmpYes X123.here hx rfl (pc0 := 139) (pc' := 167) rfl (hb hby d16_139) rfl (flt (by decide : ¬ ((3 : Int32) < (3 : Int32)))).2.1 (by decide) (by decide) (XS.iconst X123.here hx rfl (hb hby d16_167) (XS.istore X123.here hx rfl (hb hby d16_168) rfl (l' := #[lR a, lR su, lJ 5, lS, lI 5, lI 1, lR b76, lR b89, lI 3, lI 0, lU, lU, lU, lU, lU, lU]) rfl (XS.iload X123.here hx rfl (hb hby d16_170) rfl (XS.ifNo X123.here hx rfl (hb hby d16_172) rfl ((if0 _ _).trans (tlt (by decide : (0 : Int32) < (3 : Int32))).2.2.2) k))))) ?_
  refine Ds (B := T123.setTop (mkF m 185 #[lR a, lR su, lJ 5, lS, lI 5, lI 1, lR b76, lR b89, lI 3, lI 0, lI 0, lI 0, lU, lU, lU, lU] [(.int 3), (.int 0)])) (fun _ k => XS.iconst X123.here hx rfl (hb hby d16_175) (XS.istore X123.here hx rfl (hb hby d16_176) rfl (l' := #[lR a, lR su, lJ 5, lS, lI 5, lI 1, lR b76, lR b89, lI 3, lI 0, lI 0, lU, lU, lU, lU, lU]) rfl (XS.iconst X123.here hx rfl (hb hby d16_178) (XS.istore X123.here hx rfl (hb hby d16_179) rfl (l' := #[lR a, lR su, lJ 5, lS, lI 5, lI 1, lR b76, lR b89, lI 3, lI 0, lI 0, lI 0, lU, lU, lU, lU]) rfl (XS.iload X123.here hx rfl (hb hby d16_181) rfl (XS.iload X123.here hx rfl (hb hby d16_183) rfl k)))))) ?_
  refine Ds (B := T123.setTop (mkF m 192 #[lR a, lR su, lJ 5, lS, lI 5, lI 1, lR b76, lR b89, lI 3, lI 0, lI 0, lI 0, lU, lU, lU, lU] [(.int 0), (.ref b76)])) (fun _ k => XS.icmpNo X123.here hx rfl (hb hby d16_185) rfl (tlt (by decide : (0 : Int32) < (3 : Int32))).2.1 (XS.aload X123.here hx rfl (hb hby d16_188) rfl rfl (XS.iload X123.here hx rfl (hb hby d16_190) rfl k))) ?_
  obtain ⟨cl125, Ar125, q125, S125, M125, H125, G125⟩ := id V120
  have hin125 : ¬ ((0 : Int32) < 0 ∨ cl125.slots.size ≤ ((0 : Int32)).toNatClampNeg) := inb_of S125 ⟨by decide, by decide⟩
  have hat125 : cl125.slots[((0 : Int32)).toNatClampNeg]? = some (.int 0) := Has.at H125 hin125 rfl
  refine Ds (B := T123.setTop (mkF m 193 #[lR a, lR su, lJ 5, lS, lI 5, lI 1, lR b76, lR b89, lI 3, lI 0, lI 0, lI 0, lU, lU, lU, lU] [(.int 0)])) (fun _ k => X123.iaload hx (j := (0 : Int32)) (v := (.int 0)) (by rw [e123]; exact Ar125.1) (State.isArrayOf_alike hZ.alike Ar125.2.1) Ar125.2.2 hin125 hat125 (g := (mkF m 192 #[lR a, lR su, lJ 5, lS, lI 5, lI 1, lR b76, lR b89, lI 3, lI 0, lI 0, lI 0, lU, lU, lU, lU] [(.int 0), (.ref b76)])) rfl rfl (hb hby d16_192) _ k) ?_
  refine Ds (B := T123.setTop (mkF m 199 #[lR a, lR su, lJ 5, lS, lI 5, lI 1, lR b76, lR b89, lI 3, lI 0, lI 0, lI 0, lI 0, lU, lU, lU] [(.int 0), (.ref b89)])) (fun _ k => XS.istore X123.here hx rfl (hb hby d16_193) rfl (l' := #[lR a, lR su, lJ 5, lS, lI 5, lI 1, lR b76, lR b89, lI 3, lI 0, lI 0, lI 0, lI 0, lU, lU, lU]) rfl (XS.aload X123.here hx rfl (hb hby d16_195) rfl rfl (XS.iload X123.here hx rfl (hb hby d16_197) rfl k))) ?_
  have c127 := (((V89.other W105 (Ne.symm ne_b76_b89)).other W113 (Ne.symm ne_b76_b89)).other W120 (Ne.symm ne_b76_b89))
  obtain ⟨cl126, Ar126, q126, S126, M126, H126, G126⟩ := id c127
  have hin126 : ¬ ((0 : Int32) < 0 ∨ cl126.slots.size ≤ ((0 : Int32)).toNatClampNeg) := inb_of S126 ⟨by decide, by decide⟩
  have hat126 : cl126.slots[((0 : Int32)).toNatClampNeg]? = some (.int 0) := Has.at H126 hin126 rfl
  refine Ds (B := T123.setTop (mkF m 200 #[lR a, lR su, lJ 5, lS, lI 5, lI 1, lR b76, lR b89, lI 3, lI 0, lI 0, lI 0, lI 0, lU, lU, lU] [(.int 0)])) (fun _ k => X123.iaload hx (j := (0 : Int32)) (v := (.int 0)) (by rw [e123]; exact Ar126.1) (State.isArrayOf_alike hZ.alike Ar126.2.1) Ar126.2.2 hin126 hat126 (g := (mkF m 199 #[lR a, lR su, lJ 5, lS, lI 5, lI 1, lR b76, lR b89, lI 3, lI 0, lI 0, lI 0, lI 0, lU, lU, lU] [(.int 0), (.ref b89)])) rfl rfl (hb hby d16_199) _ k) ?_
  refine Ds (B := T123.setTop (mkF m 207 #[lR a, lR su, lJ 5, lS, lI 5, lI 1, lR b76, lR b89, lI 3, lI 0, lI 0, lI 0, lI 0, lI 0, lU, lU] [(.int 0), (.int 0), (.ref su)])) (fun _ k => XS.istore X123.here hx rfl (hb hby d16_200) rfl (l' := #[lR a, lR su, lJ 5, lS, lI 5, lI 1, lR b76, lR b89, lI 3, lI 0, lI 0, lI 0, lI 0, lI 0, lU, lU]) rfl (XS.aloadN X123.here hx rfl (hb hby d16_202) rfl rfl (XS.iload X123.here hx rfl (hb hby d16_203) rfl (XS.iload X123.here hx rfl (hb hby d16_205) rfl k)))) ?_
  have c128 := (((c103.other W105 ne_cc0_b76).other W113 ne_cc0_b76).other W120 ne_cc0_b76)
  obtain ⟨cq129, kq129, q129a, q129b, q129c⟩ := isOf hZ e123 c124
  obtain ⟨_, _, ⟨T129, L129, k129, n129⟩, -, X129, ⟨Lc129, hQ129, l129, y129, z129⟩, st129⟩ := X123.virtualBack hx (y := (⟨"com/example/percurso/percurso/suite/Suite", "input", "(II)I"⟩ : MethodName)) (z := (⟨"com/example/percurso/percurso/suite/Suite", "input", "(II)I"⟩ : MethodName)) hown (mvT hZ (hw _ mm140)) (mvT hZ (hw _ mm141)) (notFace_of_selects (args := #[]) (mvT hZ (hw _ mm143))) (mvT hZ (hw _ mm143)) (mvT hZ (hw _ mm142)) (by decide) (backOf (W := 0) (rm20 l Z a0 hw [] su (0 : Int32) (0 : Int32) u ku [(.ref cc0), (.ref cc1), (.ref cc2)] cc0 kel0 (2 : Int32) [(.int va), (.int vd)] va h120 n0 Z120 c121 c122 ⟨by decide, by decide⟩ rfl c128 ⟨by decide, by decide⟩ rfl) hZ (hw _ mm144) (hw _ mm63) (by decide) (by decide)) q129a q129c (g := (mkF m 207 #[lR a, lR su, lJ 5, lS, lI 5, lI 1, lR b76, lR b89, lI 3, lI 0, lI 0, lI 0, lI 0, lI 0, lU, lU] [(.int 0), (.int 0), (.ref su)])) rfl (by rw [hml]; rfl) (Steps.refl _) (argsL := [(.int 0), (.int 0)]) (rest := []) (lenOf pd_1 rfl) rfl (by show 2 * 0 + _ ≤ _; exact Nat.le_of_eq rfl) (hb hby d16_207) (fun _ _ => ⟨rfl, e123, (by decide : 7 + 0 ≤ _), (by decide : 31 + 0 ≤ _)⟩)
  dsimp only [Pt.U, Pt.locs, Pt.cells, Pt.slots] at X129 l129 y129 z129 st129 hQ129
  rw [l129, y129, z129] at X129
  obtain ⟨hv129, N129q, e129⟩ := hQ129
  rw [hv129] at st129
  have N129 := Fr.app N123 N129q
  refine Ds (B := T129.setTop (mkF m 210 #[lR a, lR su, lJ 5, lS, lI 5, lI 1, lR b76, lR b89, lI 3, lI 0, lI 0, lI 0, lI 0, lI 0, lU, lU] [(.int va)])) (fun _ k => st129.trans k) ?_
  refine Ds (B := T129.setTop (mkF m 217 #[lR a, lR su, lJ 5, lS, lI 5, lI 1, lR b76, lR b89, lI 3, lI 0, lI 0, lI 0, lI 0, lI 0, lI va, lU] [(.int va), (.int 0), (.ref a)])) (fun _ k => XS.istore X129.here hx rfl (hb hby d16_210) rfl (l' := #[lR a, lR su, lJ 5, lS, lI 5, lI 1, lR b76, lR b89, lI 3, lI 0, lI 0, lI 0, lI 0, lI 0, lI va, lU]) rfl (XS.aloadN X129.here hx rfl (hb hby d16_212) rfl rfl (XS.iload X129.here hx rfl (hb hby d16_213) rfl (XS.iload X129.here hx rfl (hb hby d16_215) rfl k)))) ?_
  have c130 := (Fld.other W120 (Fld.other W113 (Fld.other W105 (Fld.ext E89 (Fld.ext E76 (Fld.other W70 (Fld.other W66 (Fld.other W62 c61 (Or.inl ne_a_b7)) (Or.inl ne_a_b29)) (Or.inl ne_a_b42)))) (Or.inl ne_a_b76)) (Or.inl ne_a_b76)) (Or.inl ne_a_b76))
  have c131 := (Fld.other W120 (Fld.other W113 (Fld.other W105 (Fld.ext E89 (Fld.ext E76 (Fld.other W70 (Fld.other W66 c65 (Or.inl ne_a_b29)) (Or.inl ne_a_b42)))) (Or.inl ne_a_b76)) (Or.inl ne_a_b76)) (Or.inl ne_a_b76))
  have c132 := (Fld.other W120 (Fld.other W113 (Fld.other W105 (Fld.ext E89 (Fld.ext E76 (Fld.other W70 c69 (Or.inl ne_a_b42)))) (Or.inl ne_a_b76)) (Or.inl ne_a_b76)) (Or.inl ne_a_b76))
  have c133 := ((((c95.ext E89).other W105 ne_b7_b76).other W113 ne_b7_b76).other W120 ne_b7_b76)
  have c134 := ((((c97.ext E89).other W105 ne_b29_b76).other W113 ne_b29_b76).other W120 ne_b29_b76)
  have c135 := ((((c98.ext E89).other W105 ne_b42_b76).other W113 ne_b42_b76).other W120 ne_b42_b76)
  have c137 := (Exa.wr W120 (Exa.wr W113 (Exa.wr W105 (Exa.ext E89 (Exa.ext E76 (Exa.wr W70 (Exa.wr W66 (Exa.wr W62 (Exa.wr W58 (Exa.wr W55 c53))))))))))
  obtain ⟨cq136, kq136, q136a, q136b, q136c⟩ := isOf hZ e129 c137
  obtain ⟨_, _, ⟨T136, L136, k136, n136⟩, -, X136, ⟨Lc136, hQ136, l136, y136, z136⟩, st136⟩ := X129.virtualBack hx (y := (⟨"com/example/percurso/percurso/suite/PrefixTree", "child", "(II)I"⟩ : MethodName)) (z := (⟨"com/example/percurso/percurso/suite/PrefixTree", "child", "(II)I"⟩ : MethodName)) hown (mvT hZ (hw _ mm145)) (mvT hZ (hw _ mm146)) (notFace_of_selects (args := #[]) (mvT hZ (hw _ mm148))) (mvT hZ (hw _ mm148)) (mvT hZ (hw _ mm147)) (by decide) (backOf (W := 0) (rmCH_0 l Z a0 hw [] a (0 : Int32) va b7 k7 [(.int (-1)), (.int 0), (.int 0), (.int 0), (.int 0)] b29 k29 [(.int (-1)), (.int 0), (.int 0), (.int 0), (.int 0)] b42 k42 [(.int (-1)), (.int 0), (.int 0), (.int 0), (.int 0)] h120 n0 Z120 c130 c131 c132 c133 c134 c135 ⟨by decide, by decide⟩ rfl) hZ (hw _ mm149) (hw _ mm60) (by decide) (by decide)) q136a q136c (g := (mkF m 217 #[lR a, lR su, lJ 5, lS, lI 5, lI 1, lR b76, lR b89, lI 3, lI 0, lI 0, lI 0, lI 0, lI 0, lI va, lU] [(.int va), (.int 0), (.ref a)])) rfl (by rw [hml]; rfl) (Steps.refl _) (argsL := [(.int 0), (.int va)]) (rest := []) (lenOf pd_1 rfl) rfl (by show 2 * 0 + _ ≤ _; exact Nat.le_of_eq rfl) (hb hby d16_217) (fun _ _ => ⟨rfl, e129, (by decide : 7 + 0 ≤ _), (by decide : 31 + 0 ≤ _)⟩)
  dsimp only [Pt.U, Pt.locs, Pt.cells, Pt.slots] at X136 l136 y136 z136 st136 hQ136
  rw [l136, y136, z136] at X136
  obtain ⟨hv136, N136q, e136⟩ := hQ136
  rw [show own_find [] va = (-1 : Int32) from rfl] at hv136
  rw [hv136] at st136
  have N136 := Fr.app N129 N136q
  refine Ds (B := T136.setTop (mkF m 220 #[lR a, lR su, lJ 5, lS, lI 5, lI 1, lR b76, lR b89, lI 3, lI 0, lI 0, lI 0, lI 0, lI 0, lI va, lU] [(.int (-1))])) (fun _ k => st136.trans k) ?_
  refine Ds (B := T136.setTop (mkF m 233 #[lR a, lR su, lJ 5, lS, lI 5, lI 2, lR b76, lR b89, lI 3, lI 0, lI 0, lI 0, lI 0, lI 0, lI va, lI (-1)] [(.int 1)])) (fun _ k => XS.istore X136.here hx rfl (hb hby d16_220) rfl (l' := #[lR a, lR su, lJ 5, lS, lI 5, lI 1, lR b76, lR b89, lI 3, lI 0, lI 0, lI 0, lI 0, lI 0, lI va, lI (-1)]) rfl (XS.iload X136.here hx rfl (hb hby d16_222) rfl (XS.iconst X136.here hx rfl (hb hby d16_224) (XS.icmpNo X136.here hx rfl (hb hby d16_225) rfl (teq (rfl : (-1 : Int32) = (-1 : Int32))).2 (XS.iload X136.here hx rfl (hb hby d16_228) rfl (XS.iinc X136.here hx rfl (hb hby d16_230) rfl (l' := #[lR a, lR su, lJ 5, lS, lI 5, lI 2, lR b76, lR b89, lI 3, lI 0, lI 0, lI 0, lI 0, lI 0, lI va, lI (-1)]) rfl k)))))) ?_
  refine Ds (B := T136.setTop (mkF m 244 #[lR a, lR su, lJ 5, lS, lI 5, lI 2, lR b76, lR b89, lI 3, lI 0, lI 0, lI 0, lI 0, lI 0, lI va, lI 1] [(.int 0), (.int 1), (.int va), (.int 0), (.ref a)])) (fun _ k => XS.istore X136.here hx rfl (hb hby d16_233) rfl (l' := #[lR a, lR su, lJ 5, lS, lI 5, lI 2, lR b76, lR b89, lI 3, lI 0, lI 0, lI 0, lI 0, lI 0, lI va, lI 1]) rfl (XS.aloadN X136.here hx rfl (hb hby d16_235) rfl rfl (XS.iload X136.here hx rfl (hb hby d16_236) rfl (XS.iload X136.here hx rfl (hb hby d16_238) rfl (XS.iload X136.here hx rfl (hb hby d16_240) rfl (XS.iload X136.here hx rfl (hb hby d16_242) rfl k)))))) ?_
  refine Ds (B := T136.setTop (mkF m 246 #[lR a, lR su, lJ 5, lS, lI 5, lI 2, lR b76, lR b89, lI 3, lI 0, lI 0, lI 0, lI 0, lI 0, lI va, lI 1] [(.int 1), (.int 1), (.int va), (.int 0), (.ref a)])) (fun _ k => XS.iconst X136.here hx rfl (hb hby d16_244) (XS.iadd X136.here hx rfl (hb hby d16_245) rfl k)) ?_
  have c138 := (Fld.other W120 (Fld.other W113 (Fld.other W105 (Fld.ext E89 c90) (Or.inl ne_a_b76)) (Or.inl ne_a_b76)) (Or.inl ne_a_b76))
  have c139 := (Fld.other W120 (Fld.other W113 (Fld.other W105 (Fld.ext E89 (Fld.ext E76 (Fld.other W70 (Fld.other W66 (Fld.other W62 (Fld.other W58 (Fld.other W55 (Fld.ext E42 (Fld.other W41 (Fld.ext E29 F28) (Or.inr (slot_ne (Or.inr (hw _ mm125)) (Or.inr (hw _ mm127)) (by decide) (t := (.array .int)) (t' := (.array .int)) (by decide) (by decide))))) (Or.inr (slot_ne (Or.inr (hw _ mm125)) (Or.inr (hw _ mm129)) (by decide) (t := (.array .int)) (t' := (.array .int)) (by decide) (by decide)))) (Or.inl ne_a_b3)) (Or.inl ne_a_b7)) (Or.inl ne_a_b29)) (Or.inl ne_a_b42)))) (Or.inl ne_a_b76)) (Or.inl ne_a_b76)) (Or.inl ne_a_b76))
  have c140 := ((((c94.ext E89).other W105 ne_b3_b76).other W113 ne_b3_b76).other W120 ne_b3_b76)
  have c141 := ((((c96.ext E89).other W105 ne_b17_b76).other W113 ne_b17_b76).other W120 ne_b17_b76)
  obtain ⟨cq142, q142, q142'⟩ := c137.cell
  obtain ⟨_, _, ⟨T142, L142, k142, n142⟩, -, X142, ⟨Lc142, hQ142, l142, y142, z142⟩, st142⟩ := X136.privateBack hx (y := (⟨"com/example/percurso/percurso/suite/PrefixTree", "link", "(IIII)V"⟩ : MethodName)) hown (mvT hZ (hw _ mm150)) (mvT hZ (hw _ mm151)) (mvT hZ (own_selp (y := (⟨"com/example/percurso/percurso/suite/PrefixTree", "link", "(IIII)V"⟩ : MethodName)) (hw _ mm59) (hw _ mm152) (hw _ mm151) (by decide))) (Cond.privateMethod_at (mvP hZ (hw _ mm152) (args := #[]))) (mvT hZ (hw _ mm153)) (by decide) (backOf (W := 0) (rmLK_0 l Z a0 hw [] a va b3 k3 b7 k7 b17 k17 b29 k29 b42 k42 (-1 : Int32) (0 : Int32) (0 : Int32) (0 : Int32) (0 : Int32) (-1 : Int32) (0 : Int32) (0 : Int32) (0 : Int32) (0 : Int32) (0 : Int32) (0 : Int32) (0 : Int32) (0 : Int32) (0 : Int32) (0 : Int32) (0 : Int32) (0 : Int32) (0 : Int32) (-1 : Int32) (0 : Int32) (0 : Int32) (0 : Int32) (0 : Int32) h120 n0 Z120 c138 c130 c139 c131 c132 c140 c133 c141 c134 c135 ge_b3 ge_b7 ge_b17 ge_b29 ge_b42 ne_b3_b7 ne_b3_b17 ne_b3_b29 ne_b3_b42 ne_b7_b17 ne_b7_b29 ne_b7_b42 ne_b17_b29 ne_b17_b42 ne_b29_b42 ne_a_b3 ne_a_b7 ne_a_b17 ne_a_b29 ne_a_b42) hZ (hw _ mm153) (hw _ mm60) (by decide) (by decide)) (g := (mkF m 246 #[lR a, lR su, lJ 5, lS, lI 5, lI 2, lR b76, lR b89, lI 3, lI 0, lI 0, lI 0, lI 0, lI 0, lI va, lI 1] [(.int 1), (.int 1), (.int va), (.int 0), (.ref a)])) rfl (by rw [hml]; rfl) (Steps.refl _) (a := a) (by rw [e136]; exact q142) q142' (argsL := [(.int 0), (.int va), (.int 1), (.int 1)]) (rest := []) (lenOf pd_10 rfl) rfl (by show 2 * 0 + _ ≤ _; exact Nat.le_of_eq rfl) (hb hby d16_246) (fun _ _ => ⟨rfl, e136, (by decide : 7 + 0 ≤ _), (by decide : 31 + 0 ≤ _)⟩)
  dsimp only [Pt.U, Pt.locs, Pt.cells, Pt.slots] at X142 l142 y142 z142 st142 hQ142
  rw [l142, y142, z142] at X142
  have c143 := (Exa.wr W120 (Exa.wr W113 (Exa.wr W105 (Exa.ext E89 (Exa.ext E76 (Exa.wr W70 (Exa.wr W66 (Exa.wr W62 (Exa.wr W58 (Exa.wr W55 (Exa.ext E42 (Exa.wr W41 (Exa.ext E29 (Exa.wr W28 (Exa.ext E17 (Exa.wr W16 (Exa.ext E7 (Exa.wr W6 Ex3))))))))))))))))))
  have c144 := (Exa.wr W120 (Exa.wr W113 (Exa.wr W105 (Exa.ext E89 (Exa.ext E76 (Exa.wr W70 (Exa.wr W66 (Exa.wr W62 (Exa.wr W58 (Exa.wr W55 (Exa.ext E42 (Exa.wr W41 (Exa.ext E29 (Exa.wr W28 (Exa.ext E17 (Exa.wr W16 Ex7))))))))))))))))
  have c145 := (Exa.wr W120 (Exa.wr W113 (Exa.wr W105 (Exa.ext E89 (Exa.ext E76 (Exa.wr W70 (Exa.wr W66 (Exa.wr W62 (Exa.wr W58 (Exa.wr W55 (Exa.ext E42 (Exa.wr W41 (Exa.ext E29 (Exa.wr W28 Ex17))))))))))))))
  have c146 := (Exa.wr W120 (Exa.wr W113 (Exa.wr W105 (Exa.ext E89 (Exa.ext E76 (Exa.wr W70 (Exa.wr W66 (Exa.wr W62 (Exa.wr W58 (Exa.wr W55 (Exa.ext E42 (Exa.wr W41 Ex29))))))))))))
  have c147 := (Exa.wr W120 (Exa.wr W113 (Exa.wr W105 (Exa.ext E89 (Exa.ext E76 (Exa.wr W70 (Exa.wr W66 (Exa.wr W62 (Exa.wr W58 (Exa.wr W55 Ex42))))))))))
  obtain ⟨hv142, N142q, K142, im142_0⟩ := hQ142
  rw [hv142] at st142
  have N142 := Fr.app N136 N142q
  have Z142 : n0 ≤ T142.heap.size := Nat.le_trans Z120 K142.1
  have KK142 : Keep h0 T142.heap [a] := (KK120).trans K142 (allS (Or.inr sz_b3) (allS (Or.inr sz_b7) (allS (Or.inr sz_b17) (allS (Or.inr sz_b29) (allS (Or.inr sz_b42) all0)))))
  obtain ⟨f142_0, f142_1, f142_2, f142_3, f142_4⟩ := im142_0
  refine Ds (B := T142.setTop (mkF m 249 #[lR a, lR su, lJ 5, lS, lI 5, lI 2, lR b76, lR b89, lI 3, lI 0, lI 0, lI 0, lI 0, lI 0, lI va, lI 1] [])) (fun _ k => st142.trans k) ?_
  refine Ds (B := T142.setTop (mkF m 252 #[lR a, lR su, lJ 5, lS, lI 5, lI 2, lR b76, lR b89, lI 3, lI 0, lI 0, lI 0, lI 0, lI 0, lI va, lI 1] [(.int 0), (.ref su)])) (fun _ k => XS.aloadN X142.here hx rfl (hb hby d16_249) rfl rfl (XS.iload X142.here hx rfl (hb hby d16_250) rfl k)) ?_
  have c148 := (c121.keep K142 (ninS ne_su_b3 (ninS ne_su_b7 (ninS ne_su_b17 (ninS ne_su_b29 (ninS ne_su_b42 nin0))))))
  have c149 := (c122.keep K142 (ninS ne_u_b3 (ninS ne_u_b7 (ninS ne_u_b17 (ninS ne_u_b29 (ninS ne_u_b42 nin0))))))
  have c150 := (c128.keep K142 (ninS ne_cc0_b3 (ninS ne_cc0_b7 (ninS ne_cc0_b17 (ninS ne_cc0_b29 (ninS ne_cc0_b42 nin0))))))
  have c152 := (c124.keep K142)
  obtain ⟨cq151, kq151, q151a, q151b, q151c⟩ := isOf hZ rfl c152
  obtain ⟨_, _, ⟨T151, L151, k151, n151⟩, -, X151, ⟨Lc151, hQ151, l151, y151, z151⟩, st151⟩ := X142.virtualBack hx (y := (⟨"com/example/percurso/percurso/suite/Suite", "length", "(I)I"⟩ : MethodName)) (z := (⟨"com/example/percurso/percurso/suite/Suite", "length", "(I)I"⟩ : MethodName)) hown (mvT hZ (hw _ mm135)) (mvT hZ (hw _ mm136)) (notFace_of_selects (args := #[]) (mvT hZ (hw _ mm138))) (mvT hZ (hw _ mm138)) (mvT hZ (hw _ mm137)) (by decide) (backOf (W := 0) (rm19 l Z a0 hw [] su (0 : Int32) u ku [(.ref cc0), (.ref cc1), (.ref cc2)] cc0 kel0 (2 : Int32) [(.int va), (.int vd)] T142.heap n0 Z142 c148 c149 ⟨by decide, by decide⟩ rfl c150) hZ (hw _ mm139) (hw _ mm63) (by decide) (by decide)) q151a q151c (g := (mkF m 252 #[lR a, lR su, lJ 5, lS, lI 5, lI 2, lR b76, lR b89, lI 3, lI 0, lI 0, lI 0, lI 0, lI 0, lI va, lI 1] [(.int 0), (.ref su)])) rfl (by rw [hml]; rfl) (Steps.refl _) (argsL := [(.int 0)]) (rest := []) (lenOf pd_9 rfl) rfl (by show 2 * 0 + _ ≤ _; exact Nat.le_of_eq rfl) (hb hby d16_252) (fun _ _ => ⟨rfl, rfl, (by decide : 7 + 0 ≤ _), (by decide : 31 + 0 ≤ _)⟩)
  dsimp only [Pt.U, Pt.locs, Pt.cells, Pt.slots] at X151 l151 y151 z151 st151 hQ151
  rw [l151, y151, z151] at X151
  obtain ⟨hv151, N151q, e151⟩ := hQ151
  rw [hv151] at st151
  have N151 := Fr.app N142 N151q
  refine Ds (B := T151.setTop (mkF m 255 #[lR a, lR su, lJ 5, lS, lI 5, lI 2, lR b76, lR b89, lI 3, lI 0, lI 0, lI 0, lI 0, lI 0, lI va, lI 1] [(.int 2)])) (fun _ k => st151.trans k) ?_
  refine Ds (B := T151.setTop (mkF m 266 #[lR a, lR su, lJ 5, lS, lI 5, lI 2, lR b76, lR b89, lI 3, lI 0, lI 0, lI 0, lI 0, lI 0, lI va, lI 1] [(.int 0), (.ref b76)])) (fun _ k => XS.iload X151.here hx rfl (hb hby d16_255) rfl (XS.iconst X151.here hx rfl (hb hby d16_257) (XS.iadd X151.here hx rfl (hb hby d16_258) rfl (XS.icmpNo X151.here hx rfl (hb hby d16_259) rfl (tlt (by decide : (1 : Int32) < (2 : Int32))).2.2.2 (XS.aload X151.here hx rfl (hb hby d16_262) rfl rfl (XS.iload X151.here hx rfl (hb hby d16_264) rfl k)))))) ?_
  refine Ds (B := T151.setTop (mkF m 268 #[lR a, lR su, lJ 5, lS, lI 5, lI 2, lR b76, lR b89, lI 3, lI 0, lI 0, lI 0, lI 0, lI 0, lI va, lI 1] [(.int 0), (.int 0), (.ref b76)])) (fun _ k => XS.iload X151.here hx rfl (hb hby d16_266) rfl k) ?_
  have c154 := (V120.keep K142 (ninS (Ne.symm ne_b3_b76) (ninS (Ne.symm ne_b7_b76) (ninS (Ne.symm ne_b17_b76) (ninS (Ne.symm ne_b29_b76) (ninS (Ne.symm ne_b42_b76) nin0))))))
  obtain ⟨cl153, Ar153, q153, S153, M153, H153, G153⟩ := id c154
  have hin153 : ¬ ((0 : Int32) < 0 ∨ cl153.slots.size ≤ ((0 : Int32)).toNatClampNeg) := inb_of S153 ⟨by decide, by decide⟩
  obtain ⟨T153, h153, X153, e153, W153, st153⟩ := stI X151 hx hZ e151 Ar153 (j := (0 : Int32)) hin153 (g := (mkF m 268 #[lR a, lR su, lJ 5, lS, lI 5, lI 2, lR b76, lR b89, lI 3, lI 0, lI 0, lI 0, lI 0, lI 0, lI va, lI 1] [(.int 0), (.int 0), (.ref b76)])) rfl rfl (hb hby d16_268)
  have V153 : Arv Z h153 b76 k76 .int 3 [(.int 0), (.int 1), (.int 2)] (.int 0) := Arv.set Ar153 q153 S153 M153 H153 G153 rfl W153 0 rfl (Nat.le_of_ble_eq_true rfl)
  have N153 := Fr.snoc X153 N151 ge_b76
  have Z153 : n0 ≤ h153.size := Nat.le_trans Z142 (Keep.of_wr W153).1
  have KK153 : Keep h0 h153 [a] := (KK142).wr W153 (Or.inr sz_b76)
  refine Ds (B := T153.setTop (mkF m 269 #[lR a, lR su, lJ 5, lS, lI 5, lI 2, lR b76, lR b89, lI 3, lI 0, lI 0, lI 0, lI 0, lI 0, lI va, lI 1] [])) (fun _ k => st153 _ k) ?_
  refine Ds (B := T153.setTop (mkF m 278 #[lR a, lR su, lJ 5, lS, lI 5, lI 2, lR b76, lR b89, lI 3, lI 0, lI 1, lI 0, lI 0, lI 0, lI va, lI 1] [(.int 1), (.int 0), (.ref b89)])) (fun _ k => XS.aload X153.here hx rfl (hb hby d16_269) rfl rfl (XS.iload X153.here hx rfl (hb hby d16_271) rfl (XS.iinc X153.here hx rfl (hb hby d16_273) rfl (l' := #[lR a, lR su, lJ 5, lS, lI 5, lI 2, lR b76, lR b89, lI 3, lI 0, lI 1, lI 0, lI 0, lI 0, lI va, lI 1]) rfl (XS.iload X153.here hx rfl (hb hby d16_276) rfl k)))) ?_
  have c156 := ((c127.keep K142 (ninS (Ne.symm ne_b3_b89) (ninS (Ne.symm ne_b7_b89) (ninS (Ne.symm ne_b17_b89) (ninS (Ne.symm ne_b29_b89) (ninS (Ne.symm ne_b42_b89) nin0)))))).other W153 (Ne.symm ne_b76_b89))
  obtain ⟨cl155, Ar155, q155, S155, M155, H155, G155⟩ := id c156
  have hin155 : ¬ ((0 : Int32) < 0 ∨ cl155.slots.size ≤ ((0 : Int32)).toNatClampNeg) := inb_of S155 ⟨by decide, by decide⟩
  obtain ⟨T155, h155, X155, e155, W155, st155⟩ := stI X153 hx hZ e153 Ar155 (j := (0 : Int32)) hin155 (g := (mkF m 278 #[lR a, lR su, lJ 5, lS, lI 5, lI 2, lR b76, lR b89, lI 3, lI 0, lI 1, lI 0, lI 0, lI 0, lI va, lI 1] [(.int 1), (.int 0), (.ref b89)])) rfl rfl (hb hby d16_278)
  have V155 : Arv Z h155 b89 k89 .int 3 [(.int 1), (.int 0), (.int 0)] (.int 0) := Arv.set Ar155 q155 S155 M155 H155 G155 rfl W155 0 rfl (Nat.le_of_ble_eq_true rfl)
  have N155 := Fr.snoc X155 N153 ge_b89
  have Z155 : n0 ≤ h155.size := Nat.le_trans Z153 (Keep.of_wr W155).1
  have KK155 : Keep h0 h155 [a] := (KK153).wr W155 (Or.inr sz_b89)
  refine Ds (B := T155.setTop (mkF m 279 #[lR a, lR su, lJ 5, lS, lI 5, lI 2, lR b76, lR b89, lI 3, lI 0, lI 1, lI 0, lI 0, lI 0, lI va, lI 1] [])) (fun _ k => st155 _ k) ?_
  refine Ds (B := T155.setTop (mkF m 190 #[lR a, lR su, lJ 5, lS, lI 5, lI 2, lR b76, lR b89, lI 3, lI 0, lI 1, lI 1, lI 0, lI 0, lI va, lI 1] [(.ref b76)])) (fun _ k => XS.iinc X155.here hx rfl (hb hby d16_279) rfl (l' := #[lR a, lR su, lJ 5, lS, lI 5, lI 2, lR b76, lR b89, lI 3, lI 0, lI 1, lI 1, lI 0, lI 0, lI va, lI 1]) rfl (XS.goto X155.here hx rfl (pc0 := 282) (pc' := 181) rfl (hb hby d16_282) (by decide) (by decide) (XS.iload X155.here hx rfl (hb hby d16_181) rfl (XS.iload X155.here hx rfl (hb hby d16_183) rfl (XS.icmpNo X155.here hx rfl (hb hby d16_185) rfl (tlt (by decide : (1 : Int32) < (3 : Int32))).2.1 (XS.aload X155.here hx rfl (hb hby d16_188) rfl rfl k)))))) ?_
  refine Ds (B := T155.setTop (mkF m 192 #[lR a, lR su, lJ 5, lS, lI 5, lI 2, lR b76, lR b89, lI 3, lI 0, lI 1, lI 1, lI 0, lI 0, lI va, lI 1] [(.int 1), (.ref b76)])) (fun _ k => XS.iload X155.here hx rfl (hb hby d16_190) rfl k) ?_
  have c158 := (V153.other W155 ne_b76_b89)
  obtain ⟨cl157, Ar157, q157, S157, M157, H157, G157⟩ := id c158
  have hin157 : ¬ ((1 : Int32) < 0 ∨ cl157.slots.size ≤ ((1 : Int32)).toNatClampNeg) := inb_of S157 ⟨by decide, by decide⟩
  have hat157 : cl157.slots[((1 : Int32)).toNatClampNeg]? = some (.int 1) := Has.at H157 hin157 rfl
  refine Ds (B := T155.setTop (mkF m 193 #[lR a, lR su, lJ 5, lS, lI 5, lI 2, lR b76, lR b89, lI 3, lI 0, lI 1, lI 1, lI 0, lI 0, lI va, lI 1] [(.int 1)])) (fun _ k => X155.iaload hx (j := (1 : Int32)) (v := (.int 1)) (by rw [e155]; exact Ar157.1) (State.isArrayOf_alike hZ.alike Ar157.2.1) Ar157.2.2 hin157 hat157 (g := (mkF m 192 #[lR a, lR su, lJ 5, lS, lI 5, lI 2, lR b76, lR b89, lI 3, lI 0, lI 1, lI 1, lI 0, lI 0, lI va, lI 1] [(.int 1), (.ref b76)])) rfl rfl (hb hby d16_192) _ k) ?_
  refine Ds (B := T155.setTop (mkF m 199 #[lR a, lR su, lJ 5, lS, lI 5, lI 2, lR b76, lR b89, lI 3, lI 0, lI 1, lI 1, lI 1, lI 0, lI va, lI 1] [(.int 1), (.ref b89)])) (fun _ k => XS.istore X155.here hx rfl (hb hby d16_193) rfl (l' := #[lR a, lR su, lJ 5, lS, lI 5, lI 2, lR b76, lR b89, lI 3, lI 0, lI 1, lI 1, lI 1, lI 0, lI va, lI 1]) rfl (XS.aload X155.here hx rfl (hb hby d16_195) rfl rfl (XS.iload X155.here hx rfl (hb hby d16_197) rfl k))) ?_
  obtain ⟨cl159, Ar159, q159, S159, M159, H159, G159⟩ := id V155
  have hin159 : ¬ ((1 : Int32) < 0 ∨ cl159.slots.size ≤ ((1 : Int32)).toNatClampNeg) := inb_of S159 ⟨by decide, by decide⟩
  have hat159 : cl159.slots[((1 : Int32)).toNatClampNeg]? = some (.int 0) := Has.at H159 hin159 rfl
  refine Ds (B := T155.setTop (mkF m 200 #[lR a, lR su, lJ 5, lS, lI 5, lI 2, lR b76, lR b89, lI 3, lI 0, lI 1, lI 1, lI 1, lI 0, lI va, lI 1] [(.int 0)])) (fun _ k => X155.iaload hx (j := (1 : Int32)) (v := (.int 0)) (by rw [e155]; exact Ar159.1) (State.isArrayOf_alike hZ.alike Ar159.2.1) Ar159.2.2 hin159 hat159 (g := (mkF m 199 #[lR a, lR su, lJ 5, lS, lI 5, lI 2, lR b76, lR b89, lI 3, lI 0, lI 1, lI 1, lI 1, lI 0, lI va, lI 1] [(.int 1), (.ref b89)])) rfl rfl (hb hby d16_199) _ k) ?_
  refine Ds (B := T155.setTop (mkF m 207 #[lR a, lR su, lJ 5, lS, lI 5, lI 2, lR b76, lR b89, lI 3, lI 0, lI 1, lI 1, lI 1, lI 0, lI va, lI 1] [(.int 0), (.int 1), (.ref su)])) (fun _ k => XS.istore X155.here hx rfl (hb hby d16_200) rfl (l' := #[lR a, lR su, lJ 5, lS, lI 5, lI 2, lR b76, lR b89, lI 3, lI 0, lI 1, lI 1, lI 1, lI 0, lI va, lI 1]) rfl (XS.aloadN X155.here hx rfl (hb hby d16_202) rfl rfl (XS.iload X155.here hx rfl (hb hby d16_203) rfl (XS.iload X155.here hx rfl (hb hby d16_205) rfl k)))) ?_
  have c160 := (Fld.other W155 (Fld.other W153 c148 (Or.inl ne_su_b76)) (Or.inl ne_su_b89))
  have c161 := ((c149.other W153 ne_u_b76).other W155 ne_u_b89)
  have c162 := (((((c111.other W113 ne_cc1_b76).other W120 ne_cc1_b76).keep K142 (ninS ne_cc1_b3 (ninS ne_cc1_b7 (ninS ne_cc1_b17 (ninS ne_cc1_b29 (ninS ne_cc1_b42 nin0)))))).other W153 ne_cc1_b76).other W155 ne_cc1_b89)
  have c164 := (Exa.wr W155 (Exa.wr W153 c152))
  obtain ⟨cq163, kq163, q163a, q163b, q163c⟩ := isOf hZ e155 c164
  obtain ⟨_, _, ⟨T163, L163, k163, n163⟩, -, X163, ⟨Lc163, hQ163, l163, y163, z163⟩, st163⟩ := X155.virtualBack hx (y := (⟨"com/example/percurso/percurso/suite/Suite", "input", "(II)I"⟩ : MethodName)) (z := (⟨"com/example/percurso/percurso/suite/Suite", "input", "(II)I"⟩ : MethodName)) hown (mvT hZ (hw _ mm140)) (mvT hZ (hw _ mm141)) (notFace_of_selects (args := #[]) (mvT hZ (hw _ mm143))) (mvT hZ (hw _ mm143)) (mvT hZ (hw _ mm142)) (by decide) (backOf (W := 0) (rm20 l Z a0 hw [] su (1 : Int32) (0 : Int32) u ku [(.ref cc0), (.ref cc1), (.ref cc2)] cc1 kel1 (1 : Int32) [(.int vb)] vb h155 n0 Z155 c160 c161 ⟨by decide, by decide⟩ rfl c162 ⟨by decide, by decide⟩ rfl) hZ (hw _ mm144) (hw _ mm63) (by decide) (by decide)) q163a q163c (g := (mkF m 207 #[lR a, lR su, lJ 5, lS, lI 5, lI 2, lR b76, lR b89, lI 3, lI 0, lI 1, lI 1, lI 1, lI 0, lI va, lI 1] [(.int 0), (.int 1), (.ref su)])) rfl (by rw [hml]; rfl) (Steps.refl _) (argsL := [(.int 1), (.int 0)]) (rest := []) (lenOf pd_1 rfl) rfl (by show 2 * 0 + _ ≤ _; exact Nat.le_of_eq rfl) (hb hby d16_207) (fun _ _ => ⟨rfl, e155, (by decide : 7 + 0 ≤ _), (by decide : 31 + 0 ≤ _)⟩)
  dsimp only [Pt.U, Pt.locs, Pt.cells, Pt.slots] at X163 l163 y163 z163 st163 hQ163
  rw [l163, y163, z163] at X163
  obtain ⟨hv163, N163q, e163⟩ := hQ163
  rw [hv163] at st163
  have N163 := Fr.app N155 N163q
  refine Ds (B := T163.setTop (mkF m 210 #[lR a, lR su, lJ 5, lS, lI 5, lI 2, lR b76, lR b89, lI 3, lI 0, lI 1, lI 1, lI 1, lI 0, lI va, lI 1] [(.int vb)])) (fun _ k => st163.trans k) ?_
  refine Ds (B := T163.setTop (mkF m 217 #[lR a, lR su, lJ 5, lS, lI 5, lI 2, lR b76, lR b89, lI 3, lI 0, lI 1, lI 1, lI 1, lI 0, lI vb, lI 1] [(.int vb), (.int 0), (.ref a)])) (fun _ k => XS.istore X163.here hx rfl (hb hby d16_210) rfl (l' := #[lR a, lR su, lJ 5, lS, lI 5, lI 2, lR b76, lR b89, lI 3, lI 0, lI 1, lI 1, lI 1, lI 0, lI vb, lI 1]) rfl (XS.aloadN X163.here hx rfl (hb hby d16_212) rfl rfl (XS.iload X163.here hx rfl (hb hby d16_213) rfl (XS.iload X163.here hx rfl (hb hby d16_215) rfl k)))) ?_
  have jJ2 : ∀ (wi2 : Int32) (wf0 : Int32) (wn1 : Int32) (wn2 : Int32) (wl0 : List (Int32 × Int32)) (wnx : Int32) (TjJ2 : State) (hjJ2 : Heap) (LjJ2 : List Loc) (XjJ2 : Stand p l e ({ frames := 1, cells := 7, slots := 31, locals := 18 } : Room) s m #[(.ref a), (.ref su)] below meth c TjJ2 LjJ2 7 31) (ejJ2 : TjJ2.heap = hjJ2) (NjJ2 : Fr n0 LjJ2) (ZjJ2 : n0 ≤ hjJ2.size) (KjJ2 : Keep h0 hjJ2 [a]) (fjJ2_0 : Fld Z hjJ2 a "com/example/percurso/percurso/suite/PrefixTree" "parents" "[I" (.ref b3)) (fjJ2_1 : Fld Z hjJ2 a "com/example/percurso/percurso/suite/PrefixTree" "inputs" "[I" (.ref b7)) (fjJ2_2 : Fld Z hjJ2 a "com/example/percurso/percurso/suite/PrefixTree" "depths" "[I" (.ref b17)) (fjJ2_3 : Fld Z hjJ2 a "com/example/percurso/percurso/suite/PrefixTree" "firstChildren" "[I" (.ref b29)) (fjJ2_4 : Fld Z hjJ2 a "com/example/percurso/percurso/suite/PrefixTree" "nextSiblings" "[I" (.ref b42)) (fjJ2_5 : Fld Z hjJ2 a "com/example/percurso/percurso/suite/PrefixTree" "size" "I" (.int 0)) (fjJ2_6 : Exa Z hjJ2 a "com/example/percurso/percurso/suite/PrefixTree") (fjJ2_7 : Exa Z hjJ2 su "com/example/percurso/percurso/suite/Suite") (fjJ2_8 : Fld Z hjJ2 su "com/example/percurso/percurso/suite/Suite" "tests" "[[I" (.ref u)) (fjJ2_9 : Arv Z hjJ2 u ku (.array .int) (3 : Int32) [(.ref cc0), (.ref cc1), (.ref cc2)] .null) (fjJ2_10 : Arv Z hjJ2 cc0 kel0 .int 2 [(.int va), (.int vd)] (.int 0)) (fjJ2_11 : Arv Z hjJ2 cc1 kel1 .int 1 [(.int vb)] (.int 0)) (fjJ2_12 : Arv Z hjJ2 cc2 kel2 .int 1 [(.int vc)] (.int 0)) (fjJ2_13 : Exa Z hjJ2 b3 "[I") (fjJ2_14 : Exa Z hjJ2 b7 "[I") (fjJ2_15 : Exa Z hjJ2 b17 "[I") (fjJ2_16 : Exa Z hjJ2 b29 "[I") (fjJ2_17 : Exa Z hjJ2 b42 "[I") (fjJ2_18 : Arv Z hjJ2 b76 k76 .int 3 [(.int 0), (.int 1), (.int 2)] (.int 0)) (fjJ2_19 : Exa Z hjJ2 b76 "[I") (fjJ2_20 : Arv Z hjJ2 b89 k89 .int 3 [(.int 1), (.int 0), (.int 0)] (.int 0)) (fjJ2_21 : Exa Z hjJ2 b89 "[I") (fjJ2_22 : Arv Z hjJ2 b3 k3 .int 5 [(.int (-1)), (.int 0), (.int 0), (.int 0), (.int 0)] (.int 0)) (fjJ2_23 : Arv Z hjJ2 b7 k7 .int 5 [(.int (-1)), (.int va), (.int wi2), (.int 0), (.int 0)] (.int 0)) (fjJ2_24 : Arv Z hjJ2 b17 k17 .int 5 [(.int 0), (.int 1), (.int 1), (.int 0), (.int 0)] (.int 0)) (fjJ2_25 : Arv Z hjJ2 b29 k29 .int 5 [(.int wf0), (.int (-1)), (.int (-1)), (.int 0), (.int 0)] (.int 0)) (fjJ2_26 : Arv Z hjJ2 b42 k42 .int 5 [(.int (-1)), (.int wn1), (.int wn2), (.int 0), (.int 0)] (.int 0)) (hTj : own_T va vb vc vd [(.int (-1)), (.int va), (.int wi2), (.int vd), (.int 0)] [(.int wf0), (.int 3), (.int (-1)), (.int (-1)), (.int 0)] [(.int (-1)), (.int wn1), (.int wn2), (.int (-1)), (.int 0)] wf0 (3 : Int32) wl0), Done p e below (PrmPT s Z a su u ku cc0 cc1 cc2 kel0 kel1 kel2 va vb vc vd h0 n0) (TjJ2.setTop (mkF m 249 #[lR a, lR su, lJ 5, lS, lI 5, lI 3, lR b76, lR b89, lI 3, lI 0, lI 1, lI 2, lI 2, lI 0, lI vc, lI wnx] [])) := by
    intro wi2 wf0 wn1 wn2 wl0 wnx TjJ2 hjJ2 LjJ2 XjJ2 ejJ2 NjJ2 ZjJ2 KjJ2 fjJ2_0 fjJ2_1 fjJ2_2 fjJ2_3 fjJ2_4 fjJ2_5 fjJ2_6 fjJ2_7 fjJ2_8 fjJ2_9 fjJ2_10 fjJ2_11 fjJ2_12 fjJ2_13 fjJ2_14 fjJ2_15 fjJ2_16 fjJ2_17 fjJ2_18 fjJ2_19 fjJ2_20 fjJ2_21 fjJ2_22 fjJ2_23 fjJ2_24 fjJ2_25 fjJ2_26  hTj
    refine Ds (B := TjJ2.setTop (mkF m 252 #[lR a, lR su, lJ 5, lS, lI 5, lI 3, lR b76, lR b89, lI 3, lI 0, lI 1, lI 2, lI 2, lI 0, lI vc, lI wnx] [(.int 2), (.ref su)])) (fun _ k => XS.aloadN XjJ2.here hx rfl (hb hby d16_249) rfl rfl (XS.iload XjJ2.here hx rfl (hb hby d16_250) rfl k)) ?_
    obtain ⟨cq165, kq165, q165a, q165b, q165c⟩ := isOf hZ ejJ2 fjJ2_7
    obtain ⟨_, _, ⟨T165, L165, k165, n165⟩, -, X165, ⟨Lc165, hQ165, l165, y165, z165⟩, st165⟩ := XjJ2.virtualBack hx (y := (⟨"com/example/percurso/percurso/suite/Suite", "length", "(I)I"⟩ : MethodName)) (z := (⟨"com/example/percurso/percurso/suite/Suite", "length", "(I)I"⟩ : MethodName)) hown (mvT hZ (hw _ mm135)) (mvT hZ (hw _ mm136)) (notFace_of_selects (args := #[]) (mvT hZ (hw _ mm138))) (mvT hZ (hw _ mm138)) (mvT hZ (hw _ mm137)) (by decide) (backOf (W := 0) (rm19 l Z a0 hw [] su (2 : Int32) u ku [(.ref cc0), (.ref cc1), (.ref cc2)] cc2 kel2 (1 : Int32) [(.int vc)] hjJ2 n0 ZjJ2 fjJ2_8 fjJ2_9 ⟨by decide, by decide⟩ rfl fjJ2_12) hZ (hw _ mm139) (hw _ mm63) (by decide) (by decide)) q165a q165c (g := (mkF m 252 #[lR a, lR su, lJ 5, lS, lI 5, lI 3, lR b76, lR b89, lI 3, lI 0, lI 1, lI 2, lI 2, lI 0, lI vc, lI wnx] [(.int 2), (.ref su)])) rfl (by rw [hml]; rfl) (Steps.refl _) (argsL := [(.int 2)]) (rest := []) (lenOf pd_9 rfl) rfl (by show 2 * 0 + _ ≤ _; exact Nat.le_of_eq rfl) (hb hby d16_252) (fun _ _ => ⟨rfl, ejJ2, (by decide : 7 + 0 ≤ _), (by decide : 31 + 0 ≤ _)⟩)
    dsimp only [Pt.U, Pt.locs, Pt.cells, Pt.slots] at X165 l165 y165 z165 st165 hQ165
    rw [l165, y165, z165] at X165
    obtain ⟨hv165, N165q, e165⟩ := hQ165
    rw [hv165] at st165
    have N165 := Fr.app NjJ2 N165q
    refine Ds (B := T165.setTop (mkF m 255 #[lR a, lR su, lJ 5, lS, lI 5, lI 3, lR b76, lR b89, lI 3, lI 0, lI 1, lI 2, lI 2, lI 0, lI vc, lI wnx] [(.int 1)])) (fun _ k => st165.trans k) ?_
    refine Ds (B := T165.setTop (mkF m 181 #[lR a, lR su, lJ 5, lS, lI 5, lI 3, lR b76, lR b89, lI 3, lI 0, lI 1, lI 3, lI 2, lI 0, lI vc, lI wnx] [])) (fun _ k => XS.iload X165.here hx rfl (hb hby d16_255) rfl (XS.iconst X165.here hx rfl (hb hby d16_257) (XS.iadd X165.here hx rfl (hb hby d16_258) rfl (XS.icmpYes X165.here hx rfl (pc0 := 259) (pc' := 279) rfl (hb hby d16_259) rfl (flt (by decide : ¬ ((1 : Int32) < (1 : Int32)))).2.2.2 (by decide) (by decide) (XS.iinc X165.here hx rfl (hb hby d16_279) rfl (l' := #[lR a, lR su, lJ 5, lS, lI 5, lI 3, lR b76, lR b89, lI 3, lI 0, lI 1, lI 3, lI 2, lI 0, lI vc, lI wnx]) rfl (XS.goto X165.here hx rfl (pc0 := 282) (pc' := 181) rfl (hb hby d16_282) (by decide) (by decide) k)))))) ?_
    refine Ds (B := T165.setTop (mkF m 292 #[lR a, lR su, lJ 5, lS, lI 5, lI 3, lR b76, lR b89, lI 1, lI 1, lI 1, lI 3, lI 2, lI 0, lI vc, lI wnx] [])) (fun _ k => XS.iload X165.here hx rfl (hb hby d16_181) rfl (XS.iload X165.here hx rfl (hb hby d16_183) rfl (XS.icmpYes X165.here hx rfl (pc0 := 185) (pc' := 285) rfl (hb hby d16_185) rfl (flt (by decide : ¬ ((3 : Int32) < (3 : Int32)))).2.1 (by decide) (by decide) (XS.iload X165.here hx rfl (hb hby d16_285) rfl (XS.istore X165.here hx rfl (hb hby d16_287) rfl (l' := #[lR a, lR su, lJ 5, lS, lI 5, lI 3, lR b76, lR b89, lI 1, lI 0, lI 1, lI 3, lI 2, lI 0, lI vc, lI wnx]) rfl (XS.iinc X165.here hx rfl (hb hby d16_289) rfl (l' := #[lR a, lR su, lJ 5, lS, lI 5, lI 3, lR b76, lR b89, lI 1, lI 1, lI 1, lI 3, lI 2, lI 0, lI vc, lI wnx]) rfl k)))))) ?_
    refine Ds (B := T165.setTop (mkF m 175 #[lR a, lR su, lJ 5, lS, lI 5, lI 3, lR b76, lR b89, lI 1, lI 1, lI 1, lI 3, lI 2, lI 0, lI vc, lI wnx] [])) (fun _ k => XS.goto X165.here hx rfl (pc0 := 292) (pc' := 170) rfl (hb hby d16_292) (by decide) (by decide) (XS.iload X165.here hx rfl (hb hby d16_170) rfl (XS.ifNo X165.here hx rfl (hb hby d16_172) rfl ((if0 _ _).trans (tlt (by decide : (0 : Int32) < (1 : Int32))).2.2.2) k))) ?_
    refine Ds (B := T165.setTop (mkF m 185 #[lR a, lR su, lJ 5, lS, lI 5, lI 3, lR b76, lR b89, lI 1, lI 1, lI 0, lI 0, lI 2, lI 0, lI vc, lI wnx] [(.int 1), (.int 0)])) (fun _ k => XS.iconst X165.here hx rfl (hb hby d16_175) (XS.istore X165.here hx rfl (hb hby d16_176) rfl (l' := #[lR a, lR su, lJ 5, lS, lI 5, lI 3, lR b76, lR b89, lI 1, lI 1, lI 0, lI 3, lI 2, lI 0, lI vc, lI wnx]) rfl (XS.iconst X165.here hx rfl (hb hby d16_178) (XS.istore X165.here hx rfl (hb hby d16_179) rfl (l' := #[lR a, lR su, lJ 5, lS, lI 5, lI 3, lR b76, lR b89, lI 1, lI 1, lI 0, lI 0, lI 2, lI 0, lI vc, lI wnx]) rfl (XS.iload X165.here hx rfl (hb hby d16_181) rfl (XS.iload X165.here hx rfl (hb hby d16_183) rfl k)))))) ?_
    refine Ds (B := T165.setTop (mkF m 192 #[lR a, lR su, lJ 5, lS, lI 5, lI 3, lR b76, lR b89, lI 1, lI 1, lI 0, lI 0, lI 2, lI 0, lI vc, lI wnx] [(.int 0), (.ref b76)])) (fun _ k => XS.icmpNo X165.here hx rfl (hb hby d16_185) rfl (tlt (by decide : (0 : Int32) < (1 : Int32))).2.1 (XS.aload X165.here hx rfl (hb hby d16_188) rfl rfl (XS.iload X165.here hx rfl (hb hby d16_190) rfl k))) ?_
    obtain ⟨cl166, Ar166, q166, S166, M166, H166, G166⟩ := id fjJ2_18
    have hin166 : ¬ ((0 : Int32) < 0 ∨ cl166.slots.size ≤ ((0 : Int32)).toNatClampNeg) := inb_of S166 ⟨by decide, by decide⟩
    have hat166 : cl166.slots[((0 : Int32)).toNatClampNeg]? = some (.int 0) := Has.at H166 hin166 rfl
    refine Ds (B := T165.setTop (mkF m 193 #[lR a, lR su, lJ 5, lS, lI 5, lI 3, lR b76, lR b89, lI 1, lI 1, lI 0, lI 0, lI 2, lI 0, lI vc, lI wnx] [(.int 0)])) (fun _ k => X165.iaload hx (j := (0 : Int32)) (v := (.int 0)) (by rw [e165]; exact Ar166.1) (State.isArrayOf_alike hZ.alike Ar166.2.1) Ar166.2.2 hin166 hat166 (g := (mkF m 192 #[lR a, lR su, lJ 5, lS, lI 5, lI 3, lR b76, lR b89, lI 1, lI 1, lI 0, lI 0, lI 2, lI 0, lI vc, lI wnx] [(.int 0), (.ref b76)])) rfl rfl (hb hby d16_192) _ k) ?_
    refine Ds (B := T165.setTop (mkF m 199 #[lR a, lR su, lJ 5, lS, lI 5, lI 3, lR b76, lR b89, lI 1, lI 1, lI 0, lI 0, lI 0, lI 0, lI vc, lI wnx] [(.int 0), (.ref b89)])) (fun _ k => XS.istore X165.here hx rfl (hb hby d16_193) rfl (l' := #[lR a, lR su, lJ 5, lS, lI 5, lI 3, lR b76, lR b89, lI 1, lI 1, lI 0, lI 0, lI 0, lI 0, lI vc, lI wnx]) rfl (XS.aload X165.here hx rfl (hb hby d16_195) rfl rfl (XS.iload X165.here hx rfl (hb hby d16_197) rfl k))) ?_
    obtain ⟨cl167, Ar167, q167, S167, M167, H167, G167⟩ := id fjJ2_20
    have hin167 : ¬ ((0 : Int32) < 0 ∨ cl167.slots.size ≤ ((0 : Int32)).toNatClampNeg) := inb_of S167 ⟨by decide, by decide⟩
    have hat167 : cl167.slots[((0 : Int32)).toNatClampNeg]? = some (.int 1) := Has.at H167 hin167 rfl
    refine Ds (B := T165.setTop (mkF m 200 #[lR a, lR su, lJ 5, lS, lI 5, lI 3, lR b76, lR b89, lI 1, lI 1, lI 0, lI 0, lI 0, lI 0, lI vc, lI wnx] [(.int 1)])) (fun _ k => X165.iaload hx (j := (0 : Int32)) (v := (.int 1)) (by rw [e165]; exact Ar167.1) (State.isArrayOf_alike hZ.alike Ar167.2.1) Ar167.2.2 hin167 hat167 (g := (mkF m 199 #[lR a, lR su, lJ 5, lS, lI 5, lI 3, lR b76, lR b89, lI 1, lI 1, lI 0, lI 0, lI 0, lI 0, lI vc, lI wnx] [(.int 0), (.ref b89)])) rfl rfl (hb hby d16_199) _ k) ?_
    refine Ds (B := T165.setTop (mkF m 207 #[lR a, lR su, lJ 5, lS, lI 5, lI 3, lR b76, lR b89, lI 1, lI 1, lI 0, lI 0, lI 0, lI 1, lI vc, lI wnx] [(.int 1), (.int 0), (.ref su)])) (fun _ k => XS.istore X165.here hx rfl (hb hby d16_200) rfl (l' := #[lR a, lR su, lJ 5, lS, lI 5, lI 3, lR b76, lR b89, lI 1, lI 1, lI 0, lI 0, lI 0, lI 1, lI vc, lI wnx]) rfl (XS.aloadN X165.here hx rfl (hb hby d16_202) rfl rfl (XS.iload X165.here hx rfl (hb hby d16_203) rfl (XS.iload X165.here hx rfl (hb hby d16_205) rfl k)))) ?_
    obtain ⟨cq168, kq168, q168a, q168b, q168c⟩ := isOf hZ e165 fjJ2_7
    obtain ⟨_, _, ⟨T168, L168, k168, n168⟩, -, X168, ⟨Lc168, hQ168, l168, y168, z168⟩, st168⟩ := X165.virtualBack hx (y := (⟨"com/example/percurso/percurso/suite/Suite", "input", "(II)I"⟩ : MethodName)) (z := (⟨"com/example/percurso/percurso/suite/Suite", "input", "(II)I"⟩ : MethodName)) hown (mvT hZ (hw _ mm140)) (mvT hZ (hw _ mm141)) (notFace_of_selects (args := #[]) (mvT hZ (hw _ mm143))) (mvT hZ (hw _ mm143)) (mvT hZ (hw _ mm142)) (by decide) (backOf (W := 0) (rm20 l Z a0 hw [] su (0 : Int32) (1 : Int32) u ku [(.ref cc0), (.ref cc1), (.ref cc2)] cc0 kel0 (2 : Int32) [(.int va), (.int vd)] vd hjJ2 n0 ZjJ2 fjJ2_8 fjJ2_9 ⟨by decide, by decide⟩ rfl fjJ2_10 ⟨by decide, by decide⟩ rfl) hZ (hw _ mm144) (hw _ mm63) (by decide) (by decide)) q168a q168c (g := (mkF m 207 #[lR a, lR su, lJ 5, lS, lI 5, lI 3, lR b76, lR b89, lI 1, lI 1, lI 0, lI 0, lI 0, lI 1, lI vc, lI wnx] [(.int 1), (.int 0), (.ref su)])) rfl (by rw [hml]; rfl) (Steps.refl _) (argsL := [(.int 0), (.int 1)]) (rest := []) (lenOf pd_1 rfl) rfl (by show 2 * 0 + _ ≤ _; exact Nat.le_of_eq rfl) (hb hby d16_207) (fun _ _ => ⟨rfl, e165, (by decide : 7 + 0 ≤ _), (by decide : 31 + 0 ≤ _)⟩)
    dsimp only [Pt.U, Pt.locs, Pt.cells, Pt.slots] at X168 l168 y168 z168 st168 hQ168
    rw [l168, y168, z168] at X168
    obtain ⟨hv168, N168q, e168⟩ := hQ168
    rw [hv168] at st168
    have N168 := Fr.app N165 N168q
    refine Ds (B := T168.setTop (mkF m 210 #[lR a, lR su, lJ 5, lS, lI 5, lI 3, lR b76, lR b89, lI 1, lI 1, lI 0, lI 0, lI 0, lI 1, lI vc, lI wnx] [(.int vd)])) (fun _ k => st168.trans k) ?_
    refine Ds (B := T168.setTop (mkF m 217 #[lR a, lR su, lJ 5, lS, lI 5, lI 3, lR b76, lR b89, lI 1, lI 1, lI 0, lI 0, lI 0, lI 1, lI vd, lI wnx] [(.int vd), (.int 1), (.ref a)])) (fun _ k => XS.istore X168.here hx rfl (hb hby d16_210) rfl (l' := #[lR a, lR su, lJ 5, lS, lI 5, lI 3, lR b76, lR b89, lI 1, lI 1, lI 0, lI 0, lI 0, lI 1, lI vd, lI wnx]) rfl (XS.aloadN X168.here hx rfl (hb hby d16_212) rfl rfl (XS.iload X168.here hx rfl (hb hby d16_213) rfl (XS.iload X168.here hx rfl (hb hby d16_215) rfl k)))) ?_
    obtain ⟨cq169, kq169, q169a, q169b, q169c⟩ := isOf hZ e168 fjJ2_6
    obtain ⟨_, _, ⟨T169, L169, k169, n169⟩, -, X169, ⟨Lc169, hQ169, l169, y169, z169⟩, st169⟩ := X168.virtualBack hx (y := (⟨"com/example/percurso/percurso/suite/PrefixTree", "child", "(II)I"⟩ : MethodName)) (z := (⟨"com/example/percurso/percurso/suite/PrefixTree", "child", "(II)I"⟩ : MethodName)) hown (mvT hZ (hw _ mm145)) (mvT hZ (hw _ mm146)) (notFace_of_selects (args := #[]) (mvT hZ (hw _ mm148))) (mvT hZ (hw _ mm148)) (mvT hZ (hw _ mm147)) (by decide) (backOf (W := 0) (rmCH_0 l Z a0 hw [] a (1 : Int32) vd b7 k7 [(.int (-1)), (.int va), (.int wi2), (.int 0), (.int 0)] b29 k29 [(.int wf0), (.int (-1)), (.int (-1)), (.int 0), (.int 0)] b42 k42 [(.int (-1)), (.int wn1), (.int wn2), (.int 0), (.int 0)] hjJ2 n0 ZjJ2 fjJ2_1 fjJ2_3 fjJ2_4 fjJ2_23 fjJ2_25 fjJ2_26 ⟨by decide, by decide⟩ rfl) hZ (hw _ mm149) (hw _ mm60) (by decide) (by decide)) q169a q169c (g := (mkF m 217 #[lR a, lR su, lJ 5, lS, lI 5, lI 3, lR b76, lR b89, lI 1, lI 1, lI 0, lI 0, lI 0, lI 1, lI vd, lI wnx] [(.int vd), (.int 1), (.ref a)])) rfl (by rw [hml]; rfl) (Steps.refl _) (argsL := [(.int 1), (.int vd)]) (rest := []) (lenOf pd_1 rfl) rfl (by show 2 * 0 + _ ≤ _; exact Nat.le_of_eq rfl) (hb hby d16_217) (fun _ _ => ⟨rfl, e168, (by decide : 7 + 0 ≤ _), (by decide : 31 + 0 ≤ _)⟩)
    dsimp only [Pt.U, Pt.locs, Pt.cells, Pt.slots] at X169 l169 y169 z169 st169 hQ169
    rw [l169, y169, z169] at X169
    obtain ⟨hv169, N169q, e169⟩ := hQ169
    rw [show own_find [] vd = (-1 : Int32) from rfl] at hv169
    rw [hv169] at st169
    have N169 := Fr.app N168 N169q
    refine Ds (B := T169.setTop (mkF m 220 #[lR a, lR su, lJ 5, lS, lI 5, lI 3, lR b76, lR b89, lI 1, lI 1, lI 0, lI 0, lI 0, lI 1, lI vd, lI wnx] [(.int (-1))])) (fun _ k => st169.trans k) ?_
    refine Ds (B := T169.setTop (mkF m 233 #[lR a, lR su, lJ 5, lS, lI 5, lI 4, lR b76, lR b89, lI 1, lI 1, lI 0, lI 0, lI 0, lI 1, lI vd, lI (-1)] [(.int 3)])) (fun _ k => XS.istore X169.here hx rfl (hb hby d16_220) rfl (l' := #[lR a, lR su, lJ 5, lS, lI 5, lI 3, lR b76, lR b89, lI 1, lI 1, lI 0, lI 0, lI 0, lI 1, lI vd, lI (-1)]) rfl (XS.iload X169.here hx rfl (hb hby d16_222) rfl (XS.iconst X169.here hx rfl (hb hby d16_224) (XS.icmpNo X169.here hx rfl (hb hby d16_225) rfl (teq (rfl : (-1 : Int32) = (-1 : Int32))).2 (XS.iload X169.here hx rfl (hb hby d16_228) rfl (XS.iinc X169.here hx rfl (hb hby d16_230) rfl (l' := #[lR a, lR su, lJ 5, lS, lI 5, lI 4, lR b76, lR b89, lI 1, lI 1, lI 0, lI 0, lI 0, lI 1, lI vd, lI (-1)]) rfl k)))))) ?_
    refine Ds (B := T169.setTop (mkF m 244 #[lR a, lR su, lJ 5, lS, lI 5, lI 4, lR b76, lR b89, lI 1, lI 1, lI 0, lI 0, lI 0, lI 1, lI vd, lI 3] [(.int 1), (.int 3), (.int vd), (.int 1), (.ref a)])) (fun _ k => XS.istore X169.here hx rfl (hb hby d16_233) rfl (l' := #[lR a, lR su, lJ 5, lS, lI 5, lI 4, lR b76, lR b89, lI 1, lI 1, lI 0, lI 0, lI 0, lI 1, lI vd, lI 3]) rfl (XS.aloadN X169.here hx rfl (hb hby d16_235) rfl rfl (XS.iload X169.here hx rfl (hb hby d16_236) rfl (XS.iload X169.here hx rfl (hb hby d16_238) rfl (XS.iload X169.here hx rfl (hb hby d16_240) rfl (XS.iload X169.here hx rfl (hb hby d16_242) rfl k)))))) ?_
    refine Ds (B := T169.setTop (mkF m 246 #[lR a, lR su, lJ 5, lS, lI 5, lI 4, lR b76, lR b89, lI 1, lI 1, lI 0, lI 0, lI 0, lI 1, lI vd, lI 3] [(.int 2), (.int 3), (.int vd), (.int 1), (.ref a)])) (fun _ k => XS.iconst X169.here hx rfl (hb hby d16_244) (XS.iadd X169.here hx rfl (hb hby d16_245) rfl k)) ?_
    obtain ⟨cq170, q170, q170'⟩ := fjJ2_6.cell
    obtain ⟨_, _, ⟨T170, L170, k170, n170⟩, -, X170, ⟨Lc170, hQ170, l170, y170, z170⟩, st170⟩ := X169.privateBack hx (y := (⟨"com/example/percurso/percurso/suite/PrefixTree", "link", "(IIII)V"⟩ : MethodName)) hown (mvT hZ (hw _ mm150)) (mvT hZ (hw _ mm151)) (mvT hZ (own_selp (y := (⟨"com/example/percurso/percurso/suite/PrefixTree", "link", "(IIII)V"⟩ : MethodName)) (hw _ mm59) (hw _ mm152) (hw _ mm151) (by decide))) (Cond.privateMethod_at (mvP hZ (hw _ mm152) (args := #[]))) (mvT hZ (hw _ mm153)) (by decide) (backOf (W := 0) (rmLK_1 l Z a0 hw [] a vd b3 k3 b7 k7 b17 k17 b29 k29 b42 k42 (-1 : Int32) (0 : Int32) (0 : Int32) (0 : Int32) (0 : Int32) (-1 : Int32) va wi2 (0 : Int32) (0 : Int32) (0 : Int32) (1 : Int32) (1 : Int32) (0 : Int32) (0 : Int32) wf0 (-1 : Int32) (0 : Int32) (0 : Int32) (-1 : Int32) wn1 wn2 (0 : Int32) (0 : Int32) hjJ2 n0 ZjJ2 fjJ2_0 fjJ2_1 fjJ2_2 fjJ2_3 fjJ2_4 fjJ2_22 fjJ2_23 fjJ2_24 fjJ2_25 fjJ2_26 ge_b3 ge_b7 ge_b17 ge_b29 ge_b42 ne_b3_b7 ne_b3_b17 ne_b3_b29 ne_b3_b42 ne_b7_b17 ne_b7_b29 ne_b7_b42 ne_b17_b29 ne_b17_b42 ne_b29_b42 ne_a_b3 ne_a_b7 ne_a_b17 ne_a_b29 ne_a_b42) hZ (hw _ mm153) (hw _ mm60) (by decide) (by decide)) (g := (mkF m 246 #[lR a, lR su, lJ 5, lS, lI 5, lI 4, lR b76, lR b89, lI 1, lI 1, lI 0, lI 0, lI 0, lI 1, lI vd, lI 3] [(.int 2), (.int 3), (.int vd), (.int 1), (.ref a)])) rfl (by rw [hml]; rfl) (Steps.refl _) (a := a) (by rw [e169]; exact q170) q170' (argsL := [(.int 1), (.int vd), (.int 3), (.int 2)]) (rest := []) (lenOf pd_10 rfl) rfl (by show 2 * 0 + _ ≤ _; exact Nat.le_of_eq rfl) (hb hby d16_246) (fun _ _ => ⟨rfl, e169, (by decide : 7 + 0 ≤ _), (by decide : 31 + 0 ≤ _)⟩)
    dsimp only [Pt.U, Pt.locs, Pt.cells, Pt.slots] at X170 l170 y170 z170 st170 hQ170
    rw [l170, y170, z170] at X170
    obtain ⟨hv170, N170q, K170, im170_0⟩ := hQ170
    rw [hv170] at st170
    have N170 := Fr.app N169 N170q
    have Z170 : n0 ≤ T170.heap.size := Nat.le_trans ZjJ2 K170.1
    have KK170 : Keep h0 T170.heap [a] := (KjJ2).trans K170 (allS (Or.inr sz_b3) (allS (Or.inr sz_b7) (allS (Or.inr sz_b17) (allS (Or.inr sz_b29) (allS (Or.inr sz_b42) all0)))))
    obtain ⟨f170_0, f170_1, f170_2, f170_3, f170_4⟩ := im170_0
    refine Ds (B := T170.setTop (mkF m 249 #[lR a, lR su, lJ 5, lS, lI 5, lI 4, lR b76, lR b89, lI 1, lI 1, lI 0, lI 0, lI 0, lI 1, lI vd, lI 3] [])) (fun _ k => st170.trans k) ?_
    refine Ds (B := T170.setTop (mkF m 252 #[lR a, lR su, lJ 5, lS, lI 5, lI 4, lR b76, lR b89, lI 1, lI 1, lI 0, lI 0, lI 0, lI 1, lI vd, lI 3] [(.int 0), (.ref su)])) (fun _ k => XS.aloadN X170.here hx rfl (hb hby d16_249) rfl rfl (XS.iload X170.here hx rfl (hb hby d16_250) rfl k)) ?_
    have c171 := (fjJ2_8.keep K170 (ninS ne_su_b3 (ninS ne_su_b7 (ninS ne_su_b17 (ninS ne_su_b29 (ninS ne_su_b42 nin0))))))
    have c172 := (fjJ2_9.keep K170 (ninS ne_u_b3 (ninS ne_u_b7 (ninS ne_u_b17 (ninS ne_u_b29 (ninS ne_u_b42 nin0))))))
    have c173 := (fjJ2_10.keep K170 (ninS ne_cc0_b3 (ninS ne_cc0_b7 (ninS ne_cc0_b17 (ninS ne_cc0_b29 (ninS ne_cc0_b42 nin0))))))
    have c175 := (fjJ2_7.keep K170)
    obtain ⟨cq174, kq174, q174a, q174b, q174c⟩ := isOf hZ rfl c175
    obtain ⟨_, _, ⟨T174, L174, k174, n174⟩, -, X174, ⟨Lc174, hQ174, l174, y174, z174⟩, st174⟩ := X170.virtualBack hx (y := (⟨"com/example/percurso/percurso/suite/Suite", "length", "(I)I"⟩ : MethodName)) (z := (⟨"com/example/percurso/percurso/suite/Suite", "length", "(I)I"⟩ : MethodName)) hown (mvT hZ (hw _ mm135)) (mvT hZ (hw _ mm136)) (notFace_of_selects (args := #[]) (mvT hZ (hw _ mm138))) (mvT hZ (hw _ mm138)) (mvT hZ (hw _ mm137)) (by decide) (backOf (W := 0) (rm19 l Z a0 hw [] su (0 : Int32) u ku [(.ref cc0), (.ref cc1), (.ref cc2)] cc0 kel0 (2 : Int32) [(.int va), (.int vd)] T170.heap n0 Z170 c171 c172 ⟨by decide, by decide⟩ rfl c173) hZ (hw _ mm139) (hw _ mm63) (by decide) (by decide)) q174a q174c (g := (mkF m 252 #[lR a, lR su, lJ 5, lS, lI 5, lI 4, lR b76, lR b89, lI 1, lI 1, lI 0, lI 0, lI 0, lI 1, lI vd, lI 3] [(.int 0), (.ref su)])) rfl (by rw [hml]; rfl) (Steps.refl _) (argsL := [(.int 0)]) (rest := []) (lenOf pd_9 rfl) rfl (by show 2 * 0 + _ ≤ _; exact Nat.le_of_eq rfl) (hb hby d16_252) (fun _ _ => ⟨rfl, rfl, (by decide : 7 + 0 ≤ _), (by decide : 31 + 0 ≤ _)⟩)
    dsimp only [Pt.U, Pt.locs, Pt.cells, Pt.slots] at X174 l174 y174 z174 st174 hQ174
    rw [l174, y174, z174] at X174
    obtain ⟨hv174, N174q, e174⟩ := hQ174
    rw [hv174] at st174
    have N174 := Fr.app N170 N174q
    refine Ds (B := T174.setTop (mkF m 255 #[lR a, lR su, lJ 5, lS, lI 5, lI 4, lR b76, lR b89, lI 1, lI 1, lI 0, lI 0, lI 0, lI 1, lI vd, lI 3] [(.int 2)])) (fun _ k => st174.trans k) ?_
    refine Ds (B := T174.setTop (mkF m 181 #[lR a, lR su, lJ 5, lS, lI 5, lI 4, lR b76, lR b89, lI 1, lI 1, lI 0, lI 1, lI 0, lI 1, lI vd, lI 3] [])) (fun _ k => XS.iload X174.here hx rfl (hb hby d16_255) rfl (XS.iconst X174.here hx rfl (hb hby d16_257) (XS.iadd X174.here hx rfl (hb hby d16_258) rfl (XS.icmpYes X174.here hx rfl (pc0 := 259) (pc' := 279) rfl (hb hby d16_259) rfl (flt (by decide : ¬ ((2 : Int32) < (2 : Int32)))).2.2.2 (by decide) (by decide) (XS.iinc X174.here hx rfl (hb hby d16_279) rfl (l' := #[lR a, lR su, lJ 5, lS, lI 5, lI 4, lR b76, lR b89, lI 1, lI 1, lI 0, lI 1, lI 0, lI 1, lI vd, lI 3]) rfl (XS.goto X174.here hx rfl (pc0 := 282) (pc' := 181) rfl (hb hby d16_282) (by decide) (by decide) k)))))) ?_
    refine Ds (B := T174.setTop (mkF m 292 #[lR a, lR su, lJ 5, lS, lI 5, lI 4, lR b76, lR b89, lI 0, lI 2, lI 0, lI 1, lI 0, lI 1, lI vd, lI 3] [])) (fun _ k => XS.iload X174.here hx rfl (hb hby d16_181) rfl (XS.iload X174.here hx rfl (hb hby d16_183) rfl (XS.icmpYes X174.here hx rfl (pc0 := 185) (pc' := 285) rfl (hb hby d16_185) rfl (flt (by decide : ¬ ((1 : Int32) < (1 : Int32)))).2.1 (by decide) (by decide) (XS.iload X174.here hx rfl (hb hby d16_285) rfl (XS.istore X174.here hx rfl (hb hby d16_287) rfl (l' := #[lR a, lR su, lJ 5, lS, lI 5, lI 4, lR b76, lR b89, lI 0, lI 1, lI 0, lI 1, lI 0, lI 1, lI vd, lI 3]) rfl (XS.iinc X174.here hx rfl (hb hby d16_289) rfl (l' := #[lR a, lR su, lJ 5, lS, lI 5, lI 4, lR b76, lR b89, lI 0, lI 2, lI 0, lI 1, lI 0, lI 1, lI vd, lI 3]) rfl k)))))) ?_
    refine Ds (B := T174.setTop (mkF m 295 #[lR a, lR su, lJ 5, lS, lI 5, lI 4, lR b76, lR b89, lI 0, lI 2, lI 0, lI 1, lI 0, lI 1, lI vd, lI 3] [])) (fun _ k => XS.goto X174.here hx rfl (pc0 := 292) (pc' := 170) rfl (hb hby d16_292) (by decide) (by decide) (XS.iload X174.here hx rfl (hb hby d16_170) rfl (XS.ifYes X174.here hx rfl (pc0 := 172) (pc' := 295) rfl (hb hby d16_172) rfl ((if0 _ _).trans (flt (by decide : ¬ ((0 : Int32) < (0 : Int32)))).2.2.2) (by decide) (by decide) k))) ?_
    refine Ds (B := T174.setTop (mkF m 298 #[lR a, lR su, lJ 5, lS, lI 5, lI 4, lR b76, lR b89, lI 0, lI 2, lI 0, lI 1, lI 0, lI 1, lI vd, lI 3] [(.int 4), (.ref a)])) (fun _ k => XS.aloadN X174.here hx rfl (hb hby d16_295) rfl rfl (XS.iload X174.here hx rfl (hb hby d16_296) rfl k)) ?_
    have c176 := (fjJ2_6.keep K170)
    have c177 := (fjJ2_5.keep K170 (ninS ne_a_b3 (ninS ne_a_b7 (ninS ne_a_b17 (ninS ne_a_b29 (ninS ne_a_b42 nin0))))))
    obtain ⟨T178, h178, X178, e178, W178, st178⟩ := putF X174 hx hZ hown (host := "") (Or.inl (hw _ mm154)) Via.refl e174 c177 c176 (Or.inr ⟨(hw _ mm155), rfl, hnm⟩) (hw _ mm59) (ty := .int) (by decide) rfl rfl (g := (mkF m 298 #[lR a, lR su, lJ 5, lS, lI 5, lI 4, lR b76, lR b89, lI 0, lI 2, lI 0, lI 1, lI 0, lI 1, lI vd, lI 3] [(.int 4), (.ref a)])) rfl rfl (hb hby d16_298)
    have F178 := Fld.same W178 c177
    have N178 := Fr.snoc X178 N174 gs
    have Z178 : n0 ≤ h178.size := Nat.le_trans Z170 (Keep.of_wr W178).1
    have KK178 : Keep h0 h178 [a] := (KK170).wr W178 (Or.inl (List.mem_of_getElem? (i := 0) rfl))
    refine Ds (B := T178.setTop (mkF m 301 #[lR a, lR su, lJ 5, lS, lI 5, lI 4, lR b76, lR b89, lI 0, lI 2, lI 0, lI 1, lI 0, lI 1, lI vd, lI 3] [])) (fun _ k => st178 _ k) ?_
    obtain ⟨fs, hr, hrun, hended, hW, hsame⟩ := X178.leave (v := none) (hlocks := hlk) (fun _ => rfl)
    have c180 := (Exa.wr W178 c176)
    have c181 := (Fld.other W178 (fjJ2_1.keep K170 (ninS ne_a_b3 (ninS ne_a_b7 (ninS ne_a_b17 (ninS ne_a_b29 (ninS ne_a_b42 nin0)))))) (Or.inr (slot_ne (Or.inr (hw _ mm123)) (Or.inr (hw _ mm155)) (by decide) (t := (.array .int)) (t' := .int) (by decide) (by decide))))
    have c182 := (Fld.other W178 (fjJ2_3.keep K170 (ninS ne_a_b3 (ninS ne_a_b7 (ninS ne_a_b17 (ninS ne_a_b29 (ninS ne_a_b42 nin0)))))) (Or.inr (slot_ne (Or.inr (hw _ mm127)) (Or.inr (hw _ mm155)) (by decide) (t := (.array .int)) (t' := .int) (by decide) (by decide))))
    have c183 := (Fld.other W178 (fjJ2_4.keep K170 (ninS ne_a_b3 (ninS ne_a_b7 (ninS ne_a_b17 (ninS ne_a_b29 (ninS ne_a_b42 nin0)))))) (Or.inr (slot_ne (Or.inr (hw _ mm129)) (Or.inr (hw _ mm155)) (by decide) (t := (.array .int)) (t' := .int) (by decide) (by decide))))
    have c184 := (f170_1.other W178 (Ne.symm ne_a_b7))
    have c185 := (f170_3.other W178 (Ne.symm ne_a_b29))
    have c186 := (f170_4.other W178 (Ne.symm ne_a_b42))
    refine Done.fin (X178.returnOut hx Bd.returns (hb hby d16_301) hr) hrun hended ⟨_, _, rfl, ?_, ⟨_, rfl⟩, hW, hsame.mono (by decide) (by decide)⟩
    show QrmPT Z a su u ku cc0 cc1 cc2 kel0 kel1 kel2 va vb vc vd h0 n0 _ T178.heap _
    rw [e178]
    exact ⟨b7, _, [(.int (-1)), (.int va), (.int wi2), (.int vd), (.int 0)], b29, _, [(.int wf0), (.int 3), (.int (-1)), (.int (-1)), (.int 0)], b42, _, [(.int (-1)), (.int wn1), (.int wn2), (.int (-1)), (.int 0)], wf0, (3 : Int32), wl0, rfl, N178, KK178, c180, c181, c182, c183, c184, c185, c186, hTj⟩
  have jJ3 : ∀ (wi2 : Int32) (wi3 : Int32) (wf0 : Int32) (wn1 : Int32) (wn2 : Int32) (wn3 : Int32) (wl0 : List (Int32 × Int32)) (wnx : Int32) (TjJ3 : State) (hjJ3 : Heap) (LjJ3 : List Loc) (XjJ3 : Stand p l e ({ frames := 1, cells := 7, slots := 31, locals := 18 } : Room) s m #[(.ref a), (.ref su)] below meth c TjJ3 LjJ3 7 31) (ejJ3 : TjJ3.heap = hjJ3) (NjJ3 : Fr n0 LjJ3) (ZjJ3 : n0 ≤ hjJ3.size) (KjJ3 : Keep h0 hjJ3 [a]) (fjJ3_0 : Fld Z hjJ3 a "com/example/percurso/percurso/suite/PrefixTree" "parents" "[I" (.ref b3)) (fjJ3_1 : Fld Z hjJ3 a "com/example/percurso/percurso/suite/PrefixTree" "inputs" "[I" (.ref b7)) (fjJ3_2 : Fld Z hjJ3 a "com/example/percurso/percurso/suite/PrefixTree" "depths" "[I" (.ref b17)) (fjJ3_3 : Fld Z hjJ3 a "com/example/percurso/percurso/suite/PrefixTree" "firstChildren" "[I" (.ref b29)) (fjJ3_4 : Fld Z hjJ3 a "com/example/percurso/percurso/suite/PrefixTree" "nextSiblings" "[I" (.ref b42)) (fjJ3_5 : Fld Z hjJ3 a "com/example/percurso/percurso/suite/PrefixTree" "size" "I" (.int 0)) (fjJ3_6 : Exa Z hjJ3 a "com/example/percurso/percurso/suite/PrefixTree") (fjJ3_7 : Exa Z hjJ3 su "com/example/percurso/percurso/suite/Suite") (fjJ3_8 : Fld Z hjJ3 su "com/example/percurso/percurso/suite/Suite" "tests" "[[I" (.ref u)) (fjJ3_9 : Arv Z hjJ3 u ku (.array .int) (3 : Int32) [(.ref cc0), (.ref cc1), (.ref cc2)] .null) (fjJ3_10 : Arv Z hjJ3 cc0 kel0 .int 2 [(.int va), (.int vd)] (.int 0)) (fjJ3_11 : Arv Z hjJ3 cc1 kel1 .int 1 [(.int vb)] (.int 0)) (fjJ3_12 : Arv Z hjJ3 cc2 kel2 .int 1 [(.int vc)] (.int 0)) (fjJ3_13 : Exa Z hjJ3 b3 "[I") (fjJ3_14 : Exa Z hjJ3 b7 "[I") (fjJ3_15 : Exa Z hjJ3 b17 "[I") (fjJ3_16 : Exa Z hjJ3 b29 "[I") (fjJ3_17 : Exa Z hjJ3 b42 "[I") (fjJ3_18 : Arv Z hjJ3 b76 k76 .int 3 [(.int 0), (.int 1), (.int 2)] (.int 0)) (fjJ3_19 : Exa Z hjJ3 b76 "[I") (fjJ3_20 : Arv Z hjJ3 b89 k89 .int 3 [(.int 1), (.int 0), (.int 0)] (.int 0)) (fjJ3_21 : Exa Z hjJ3 b89 "[I") (fjJ3_22 : Arv Z hjJ3 b3 k3 .int 5 [(.int (-1)), (.int 0), (.int 0), (.int 0), (.int 0)] (.int 0)) (fjJ3_23 : Arv Z hjJ3 b7 k7 .int 5 [(.int (-1)), (.int va), (.int wi2), (.int wi3), (.int 0)] (.int 0)) (fjJ3_24 : Arv Z hjJ3 b17 k17 .int 5 [(.int 0), (.int 1), (.int 1), (.int 1), (.int 0)] (.int 0)) (fjJ3_25 : Arv Z hjJ3 b29 k29 .int 5 [(.int wf0), (.int (-1)), (.int (-1)), (.int (-1)), (.int 0)] (.int 0)) (fjJ3_26 : Arv Z hjJ3 b42 k42 .int 5 [(.int (-1)), (.int wn1), (.int wn2), (.int wn3), (.int 0)] (.int 0)) (hTj : own_T va vb vc vd [(.int (-1)), (.int va), (.int wi2), (.int wi3), (.int vd)] [(.int wf0), (.int 4), (.int (-1)), (.int (-1)), (.int (-1))] [(.int (-1)), (.int wn1), (.int wn2), (.int wn3), (.int (-1))] wf0 (4 : Int32) wl0), Done p e below (PrmPT s Z a su u ku cc0 cc1 cc2 kel0 kel1 kel2 va vb vc vd h0 n0) (TjJ3.setTop (mkF m 249 #[lR a, lR su, lJ 5, lS, lI 5, lI 4, lR b76, lR b89, lI 3, lI 0, lI 1, lI 2, lI 2, lI 0, lI vc, lI wnx] [])) := by
    intro wi2 wi3 wf0 wn1 wn2 wn3 wl0 wnx TjJ3 hjJ3 LjJ3 XjJ3 ejJ3 NjJ3 ZjJ3 KjJ3 fjJ3_0 fjJ3_1 fjJ3_2 fjJ3_3 fjJ3_4 fjJ3_5 fjJ3_6 fjJ3_7 fjJ3_8 fjJ3_9 fjJ3_10 fjJ3_11 fjJ3_12 fjJ3_13 fjJ3_14 fjJ3_15 fjJ3_16 fjJ3_17 fjJ3_18 fjJ3_19 fjJ3_20 fjJ3_21 fjJ3_22 fjJ3_23 fjJ3_24 fjJ3_25 fjJ3_26  hTj
    refine Ds (B := TjJ3.setTop (mkF m 252 #[lR a, lR su, lJ 5, lS, lI 5, lI 4, lR b76, lR b89, lI 3, lI 0, lI 1, lI 2, lI 2, lI 0, lI vc, lI wnx] [(.int 2), (.ref su)])) (fun _ k => XS.aloadN XjJ3.here hx rfl (hb hby d16_249) rfl rfl (XS.iload XjJ3.here hx rfl (hb hby d16_250) rfl k)) ?_
    obtain ⟨cq187, kq187, q187a, q187b, q187c⟩ := isOf hZ ejJ3 fjJ3_7
    obtain ⟨_, _, ⟨T187, L187, k187, n187⟩, -, X187, ⟨Lc187, hQ187, l187, y187, z187⟩, st187⟩ := XjJ3.virtualBack hx (y := (⟨"com/example/percurso/percurso/suite/Suite", "length", "(I)I"⟩ : MethodName)) (z := (⟨"com/example/percurso/percurso/suite/Suite", "length", "(I)I"⟩ : MethodName)) hown (mvT hZ (hw _ mm135)) (mvT hZ (hw _ mm136)) (notFace_of_selects (args := #[]) (mvT hZ (hw _ mm138))) (mvT hZ (hw _ mm138)) (mvT hZ (hw _ mm137)) (by decide) (backOf (W := 0) (rm19 l Z a0 hw [] su (2 : Int32) u ku [(.ref cc0), (.ref cc1), (.ref cc2)] cc2 kel2 (1 : Int32) [(.int vc)] hjJ3 n0 ZjJ3 fjJ3_8 fjJ3_9 ⟨by decide, by decide⟩ rfl fjJ3_12) hZ (hw _ mm139) (hw _ mm63) (by decide) (by decide)) q187a q187c (g := (mkF m 252 #[lR a, lR su, lJ 5, lS, lI 5, lI 4, lR b76, lR b89, lI 3, lI 0, lI 1, lI 2, lI 2, lI 0, lI vc, lI wnx] [(.int 2), (.ref su)])) rfl (by rw [hml]; rfl) (Steps.refl _) (argsL := [(.int 2)]) (rest := []) (lenOf pd_9 rfl) rfl (by show 2 * 0 + _ ≤ _; exact Nat.le_of_eq rfl) (hb hby d16_252) (fun _ _ => ⟨rfl, ejJ3, (by decide : 7 + 0 ≤ _), (by decide : 31 + 0 ≤ _)⟩)
    dsimp only [Pt.U, Pt.locs, Pt.cells, Pt.slots] at X187 l187 y187 z187 st187 hQ187
    rw [l187, y187, z187] at X187
    obtain ⟨hv187, N187q, e187⟩ := hQ187
    rw [hv187] at st187
    have N187 := Fr.app NjJ3 N187q
    refine Ds (B := T187.setTop (mkF m 255 #[lR a, lR su, lJ 5, lS, lI 5, lI 4, lR b76, lR b89, lI 3, lI 0, lI 1, lI 2, lI 2, lI 0, lI vc, lI wnx] [(.int 1)])) (fun _ k => st187.trans k) ?_
    refine Ds (B := T187.setTop (mkF m 181 #[lR a, lR su, lJ 5, lS, lI 5, lI 4, lR b76, lR b89, lI 3, lI 0, lI 1, lI 3, lI 2, lI 0, lI vc, lI wnx] [])) (fun _ k => XS.iload X187.here hx rfl (hb hby d16_255) rfl (XS.iconst X187.here hx rfl (hb hby d16_257) (XS.iadd X187.here hx rfl (hb hby d16_258) rfl (XS.icmpYes X187.here hx rfl (pc0 := 259) (pc' := 279) rfl (hb hby d16_259) rfl (flt (by decide : ¬ ((1 : Int32) < (1 : Int32)))).2.2.2 (by decide) (by decide) (XS.iinc X187.here hx rfl (hb hby d16_279) rfl (l' := #[lR a, lR su, lJ 5, lS, lI 5, lI 4, lR b76, lR b89, lI 3, lI 0, lI 1, lI 3, lI 2, lI 0, lI vc, lI wnx]) rfl (XS.goto X187.here hx rfl (pc0 := 282) (pc' := 181) rfl (hb hby d16_282) (by decide) (by decide) k)))))) ?_
    refine Ds (B := T187.setTop (mkF m 292 #[lR a, lR su, lJ 5, lS, lI 5, lI 4, lR b76, lR b89, lI 1, lI 1, lI 1, lI 3, lI 2, lI 0, lI vc, lI wnx] [])) (fun _ k => XS.iload X187.here hx rfl (hb hby d16_181) rfl (XS.iload X187.here hx rfl (hb hby d16_183) rfl (XS.icmpYes X187.here hx rfl (pc0 := 185) (pc' := 285) rfl (hb hby d16_185) rfl (flt (by decide : ¬ ((3 : Int32) < (3 : Int32)))).2.1 (by decide) (by decide) (XS.iload X187.here hx rfl (hb hby d16_285) rfl (XS.istore X187.here hx rfl (hb hby d16_287) rfl (l' := #[lR a, lR su, lJ 5, lS, lI 5, lI 4, lR b76, lR b89, lI 1, lI 0, lI 1, lI 3, lI 2, lI 0, lI vc, lI wnx]) rfl (XS.iinc X187.here hx rfl (hb hby d16_289) rfl (l' := #[lR a, lR su, lJ 5, lS, lI 5, lI 4, lR b76, lR b89, lI 1, lI 1, lI 1, lI 3, lI 2, lI 0, lI vc, lI wnx]) rfl k)))))) ?_
    refine Ds (B := T187.setTop (mkF m 175 #[lR a, lR su, lJ 5, lS, lI 5, lI 4, lR b76, lR b89, lI 1, lI 1, lI 1, lI 3, lI 2, lI 0, lI vc, lI wnx] [])) (fun _ k => XS.goto X187.here hx rfl (pc0 := 292) (pc' := 170) rfl (hb hby d16_292) (by decide) (by decide) (XS.iload X187.here hx rfl (hb hby d16_170) rfl (XS.ifNo X187.here hx rfl (hb hby d16_172) rfl ((if0 _ _).trans (tlt (by decide : (0 : Int32) < (1 : Int32))).2.2.2) k))) ?_
    refine Ds (B := T187.setTop (mkF m 185 #[lR a, lR su, lJ 5, lS, lI 5, lI 4, lR b76, lR b89, lI 1, lI 1, lI 0, lI 0, lI 2, lI 0, lI vc, lI wnx] [(.int 1), (.int 0)])) (fun _ k => XS.iconst X187.here hx rfl (hb hby d16_175) (XS.istore X187.here hx rfl (hb hby d16_176) rfl (l' := #[lR a, lR su, lJ 5, lS, lI 5, lI 4, lR b76, lR b89, lI 1, lI 1, lI 0, lI 3, lI 2, lI 0, lI vc, lI wnx]) rfl (XS.iconst X187.here hx rfl (hb hby d16_178) (XS.istore X187.here hx rfl (hb hby d16_179) rfl (l' := #[lR a, lR su, lJ 5, lS, lI 5, lI 4, lR b76, lR b89, lI 1, lI 1, lI 0, lI 0, lI 2, lI 0, lI vc, lI wnx]) rfl (XS.iload X187.here hx rfl (hb hby d16_181) rfl (XS.iload X187.here hx rfl (hb hby d16_183) rfl k)))))) ?_
    refine Ds (B := T187.setTop (mkF m 192 #[lR a, lR su, lJ 5, lS, lI 5, lI 4, lR b76, lR b89, lI 1, lI 1, lI 0, lI 0, lI 2, lI 0, lI vc, lI wnx] [(.int 0), (.ref b76)])) (fun _ k => XS.icmpNo X187.here hx rfl (hb hby d16_185) rfl (tlt (by decide : (0 : Int32) < (1 : Int32))).2.1 (XS.aload X187.here hx rfl (hb hby d16_188) rfl rfl (XS.iload X187.here hx rfl (hb hby d16_190) rfl k))) ?_
    obtain ⟨cl188, Ar188, q188, S188, M188, H188, G188⟩ := id fjJ3_18
    have hin188 : ¬ ((0 : Int32) < 0 ∨ cl188.slots.size ≤ ((0 : Int32)).toNatClampNeg) := inb_of S188 ⟨by decide, by decide⟩
    have hat188 : cl188.slots[((0 : Int32)).toNatClampNeg]? = some (.int 0) := Has.at H188 hin188 rfl
    refine Ds (B := T187.setTop (mkF m 193 #[lR a, lR su, lJ 5, lS, lI 5, lI 4, lR b76, lR b89, lI 1, lI 1, lI 0, lI 0, lI 2, lI 0, lI vc, lI wnx] [(.int 0)])) (fun _ k => X187.iaload hx (j := (0 : Int32)) (v := (.int 0)) (by rw [e187]; exact Ar188.1) (State.isArrayOf_alike hZ.alike Ar188.2.1) Ar188.2.2 hin188 hat188 (g := (mkF m 192 #[lR a, lR su, lJ 5, lS, lI 5, lI 4, lR b76, lR b89, lI 1, lI 1, lI 0, lI 0, lI 2, lI 0, lI vc, lI wnx] [(.int 0), (.ref b76)])) rfl rfl (hb hby d16_192) _ k) ?_
    refine Ds (B := T187.setTop (mkF m 199 #[lR a, lR su, lJ 5, lS, lI 5, lI 4, lR b76, lR b89, lI 1, lI 1, lI 0, lI 0, lI 0, lI 0, lI vc, lI wnx] [(.int 0), (.ref b89)])) (fun _ k => XS.istore X187.here hx rfl (hb hby d16_193) rfl (l' := #[lR a, lR su, lJ 5, lS, lI 5, lI 4, lR b76, lR b89, lI 1, lI 1, lI 0, lI 0, lI 0, lI 0, lI vc, lI wnx]) rfl (XS.aload X187.here hx rfl (hb hby d16_195) rfl rfl (XS.iload X187.here hx rfl (hb hby d16_197) rfl k))) ?_
    obtain ⟨cl189, Ar189, q189, S189, M189, H189, G189⟩ := id fjJ3_20
    have hin189 : ¬ ((0 : Int32) < 0 ∨ cl189.slots.size ≤ ((0 : Int32)).toNatClampNeg) := inb_of S189 ⟨by decide, by decide⟩
    have hat189 : cl189.slots[((0 : Int32)).toNatClampNeg]? = some (.int 1) := Has.at H189 hin189 rfl
    refine Ds (B := T187.setTop (mkF m 200 #[lR a, lR su, lJ 5, lS, lI 5, lI 4, lR b76, lR b89, lI 1, lI 1, lI 0, lI 0, lI 0, lI 0, lI vc, lI wnx] [(.int 1)])) (fun _ k => X187.iaload hx (j := (0 : Int32)) (v := (.int 1)) (by rw [e187]; exact Ar189.1) (State.isArrayOf_alike hZ.alike Ar189.2.1) Ar189.2.2 hin189 hat189 (g := (mkF m 199 #[lR a, lR su, lJ 5, lS, lI 5, lI 4, lR b76, lR b89, lI 1, lI 1, lI 0, lI 0, lI 0, lI 0, lI vc, lI wnx] [(.int 0), (.ref b89)])) rfl rfl (hb hby d16_199) _ k) ?_
    refine Ds (B := T187.setTop (mkF m 207 #[lR a, lR su, lJ 5, lS, lI 5, lI 4, lR b76, lR b89, lI 1, lI 1, lI 0, lI 0, lI 0, lI 1, lI vc, lI wnx] [(.int 1), (.int 0), (.ref su)])) (fun _ k => XS.istore X187.here hx rfl (hb hby d16_200) rfl (l' := #[lR a, lR su, lJ 5, lS, lI 5, lI 4, lR b76, lR b89, lI 1, lI 1, lI 0, lI 0, lI 0, lI 1, lI vc, lI wnx]) rfl (XS.aloadN X187.here hx rfl (hb hby d16_202) rfl rfl (XS.iload X187.here hx rfl (hb hby d16_203) rfl (XS.iload X187.here hx rfl (hb hby d16_205) rfl k)))) ?_
    obtain ⟨cq190, kq190, q190a, q190b, q190c⟩ := isOf hZ e187 fjJ3_7
    obtain ⟨_, _, ⟨T190, L190, k190, n190⟩, -, X190, ⟨Lc190, hQ190, l190, y190, z190⟩, st190⟩ := X187.virtualBack hx (y := (⟨"com/example/percurso/percurso/suite/Suite", "input", "(II)I"⟩ : MethodName)) (z := (⟨"com/example/percurso/percurso/suite/Suite", "input", "(II)I"⟩ : MethodName)) hown (mvT hZ (hw _ mm140)) (mvT hZ (hw _ mm141)) (notFace_of_selects (args := #[]) (mvT hZ (hw _ mm143))) (mvT hZ (hw _ mm143)) (mvT hZ (hw _ mm142)) (by decide) (backOf (W := 0) (rm20 l Z a0 hw [] su (0 : Int32) (1 : Int32) u ku [(.ref cc0), (.ref cc1), (.ref cc2)] cc0 kel0 (2 : Int32) [(.int va), (.int vd)] vd hjJ3 n0 ZjJ3 fjJ3_8 fjJ3_9 ⟨by decide, by decide⟩ rfl fjJ3_10 ⟨by decide, by decide⟩ rfl) hZ (hw _ mm144) (hw _ mm63) (by decide) (by decide)) q190a q190c (g := (mkF m 207 #[lR a, lR su, lJ 5, lS, lI 5, lI 4, lR b76, lR b89, lI 1, lI 1, lI 0, lI 0, lI 0, lI 1, lI vc, lI wnx] [(.int 1), (.int 0), (.ref su)])) rfl (by rw [hml]; rfl) (Steps.refl _) (argsL := [(.int 0), (.int 1)]) (rest := []) (lenOf pd_1 rfl) rfl (by show 2 * 0 + _ ≤ _; exact Nat.le_of_eq rfl) (hb hby d16_207) (fun _ _ => ⟨rfl, e187, (by decide : 7 + 0 ≤ _), (by decide : 31 + 0 ≤ _)⟩)
    dsimp only [Pt.U, Pt.locs, Pt.cells, Pt.slots] at X190 l190 y190 z190 st190 hQ190
    rw [l190, y190, z190] at X190
    obtain ⟨hv190, N190q, e190⟩ := hQ190
    rw [hv190] at st190
    have N190 := Fr.app N187 N190q
    refine Ds (B := T190.setTop (mkF m 210 #[lR a, lR su, lJ 5, lS, lI 5, lI 4, lR b76, lR b89, lI 1, lI 1, lI 0, lI 0, lI 0, lI 1, lI vc, lI wnx] [(.int vd)])) (fun _ k => st190.trans k) ?_
    refine Ds (B := T190.setTop (mkF m 217 #[lR a, lR su, lJ 5, lS, lI 5, lI 4, lR b76, lR b89, lI 1, lI 1, lI 0, lI 0, lI 0, lI 1, lI vd, lI wnx] [(.int vd), (.int 1), (.ref a)])) (fun _ k => XS.istore X190.here hx rfl (hb hby d16_210) rfl (l' := #[lR a, lR su, lJ 5, lS, lI 5, lI 4, lR b76, lR b89, lI 1, lI 1, lI 0, lI 0, lI 0, lI 1, lI vd, lI wnx]) rfl (XS.aloadN X190.here hx rfl (hb hby d16_212) rfl rfl (XS.iload X190.here hx rfl (hb hby d16_213) rfl (XS.iload X190.here hx rfl (hb hby d16_215) rfl k)))) ?_
    obtain ⟨cq191, kq191, q191a, q191b, q191c⟩ := isOf hZ e190 fjJ3_6
    obtain ⟨_, _, ⟨T191, L191, k191, n191⟩, -, X191, ⟨Lc191, hQ191, l191, y191, z191⟩, st191⟩ := X190.virtualBack hx (y := (⟨"com/example/percurso/percurso/suite/PrefixTree", "child", "(II)I"⟩ : MethodName)) (z := (⟨"com/example/percurso/percurso/suite/PrefixTree", "child", "(II)I"⟩ : MethodName)) hown (mvT hZ (hw _ mm145)) (mvT hZ (hw _ mm146)) (notFace_of_selects (args := #[]) (mvT hZ (hw _ mm148))) (mvT hZ (hw _ mm148)) (mvT hZ (hw _ mm147)) (by decide) (backOf (W := 0) (rmCH_0 l Z a0 hw [] a (1 : Int32) vd b7 k7 [(.int (-1)), (.int va), (.int wi2), (.int wi3), (.int 0)] b29 k29 [(.int wf0), (.int (-1)), (.int (-1)), (.int (-1)), (.int 0)] b42 k42 [(.int (-1)), (.int wn1), (.int wn2), (.int wn3), (.int 0)] hjJ3 n0 ZjJ3 fjJ3_1 fjJ3_3 fjJ3_4 fjJ3_23 fjJ3_25 fjJ3_26 ⟨by decide, by decide⟩ rfl) hZ (hw _ mm149) (hw _ mm60) (by decide) (by decide)) q191a q191c (g := (mkF m 217 #[lR a, lR su, lJ 5, lS, lI 5, lI 4, lR b76, lR b89, lI 1, lI 1, lI 0, lI 0, lI 0, lI 1, lI vd, lI wnx] [(.int vd), (.int 1), (.ref a)])) rfl (by rw [hml]; rfl) (Steps.refl _) (argsL := [(.int 1), (.int vd)]) (rest := []) (lenOf pd_1 rfl) rfl (by show 2 * 0 + _ ≤ _; exact Nat.le_of_eq rfl) (hb hby d16_217) (fun _ _ => ⟨rfl, e190, (by decide : 7 + 0 ≤ _), (by decide : 31 + 0 ≤ _)⟩)
    dsimp only [Pt.U, Pt.locs, Pt.cells, Pt.slots] at X191 l191 y191 z191 st191 hQ191
    rw [l191, y191, z191] at X191
    obtain ⟨hv191, N191q, e191⟩ := hQ191
    rw [show own_find [] vd = (-1 : Int32) from rfl] at hv191
    rw [hv191] at st191
    have N191 := Fr.app N190 N191q
    refine Ds (B := T191.setTop (mkF m 220 #[lR a, lR su, lJ 5, lS, lI 5, lI 4, lR b76, lR b89, lI 1, lI 1, lI 0, lI 0, lI 0, lI 1, lI vd, lI wnx] [(.int (-1))])) (fun _ k => st191.trans k) ?_
    refine Ds (B := T191.setTop (mkF m 233 #[lR a, lR su, lJ 5, lS, lI 5, lI 5, lR b76, lR b89, lI 1, lI 1, lI 0, lI 0, lI 0, lI 1, lI vd, lI (-1)] [(.int 4)])) (fun _ k => XS.istore X191.here hx rfl (hb hby d16_220) rfl (l' := #[lR a, lR su, lJ 5, lS, lI 5, lI 4, lR b76, lR b89, lI 1, lI 1, lI 0, lI 0, lI 0, lI 1, lI vd, lI (-1)]) rfl (XS.iload X191.here hx rfl (hb hby d16_222) rfl (XS.iconst X191.here hx rfl (hb hby d16_224) (XS.icmpNo X191.here hx rfl (hb hby d16_225) rfl (teq (rfl : (-1 : Int32) = (-1 : Int32))).2 (XS.iload X191.here hx rfl (hb hby d16_228) rfl (XS.iinc X191.here hx rfl (hb hby d16_230) rfl (l' := #[lR a, lR su, lJ 5, lS, lI 5, lI 5, lR b76, lR b89, lI 1, lI 1, lI 0, lI 0, lI 0, lI 1, lI vd, lI (-1)]) rfl k)))))) ?_
    refine Ds (B := T191.setTop (mkF m 244 #[lR a, lR su, lJ 5, lS, lI 5, lI 5, lR b76, lR b89, lI 1, lI 1, lI 0, lI 0, lI 0, lI 1, lI vd, lI 4] [(.int 1), (.int 4), (.int vd), (.int 1), (.ref a)])) (fun _ k => XS.istore X191.here hx rfl (hb hby d16_233) rfl (l' := #[lR a, lR su, lJ 5, lS, lI 5, lI 5, lR b76, lR b89, lI 1, lI 1, lI 0, lI 0, lI 0, lI 1, lI vd, lI 4]) rfl (XS.aloadN X191.here hx rfl (hb hby d16_235) rfl rfl (XS.iload X191.here hx rfl (hb hby d16_236) rfl (XS.iload X191.here hx rfl (hb hby d16_238) rfl (XS.iload X191.here hx rfl (hb hby d16_240) rfl (XS.iload X191.here hx rfl (hb hby d16_242) rfl k)))))) ?_
    refine Ds (B := T191.setTop (mkF m 246 #[lR a, lR su, lJ 5, lS, lI 5, lI 5, lR b76, lR b89, lI 1, lI 1, lI 0, lI 0, lI 0, lI 1, lI vd, lI 4] [(.int 2), (.int 4), (.int vd), (.int 1), (.ref a)])) (fun _ k => XS.iconst X191.here hx rfl (hb hby d16_244) (XS.iadd X191.here hx rfl (hb hby d16_245) rfl k)) ?_
    obtain ⟨cq192, q192, q192'⟩ := fjJ3_6.cell
    obtain ⟨_, _, ⟨T192, L192, k192, n192⟩, -, X192, ⟨Lc192, hQ192, l192, y192, z192⟩, st192⟩ := X191.privateBack hx (y := (⟨"com/example/percurso/percurso/suite/PrefixTree", "link", "(IIII)V"⟩ : MethodName)) hown (mvT hZ (hw _ mm150)) (mvT hZ (hw _ mm151)) (mvT hZ (own_selp (y := (⟨"com/example/percurso/percurso/suite/PrefixTree", "link", "(IIII)V"⟩ : MethodName)) (hw _ mm59) (hw _ mm152) (hw _ mm151) (by decide))) (Cond.privateMethod_at (mvP hZ (hw _ mm152) (args := #[]))) (mvT hZ (hw _ mm153)) (by decide) (backOf (W := 0) (rmLK_2 l Z a0 hw [] a vd b3 k3 b7 k7 b17 k17 b29 k29 b42 k42 (-1 : Int32) (0 : Int32) (0 : Int32) (0 : Int32) (0 : Int32) (-1 : Int32) va wi2 wi3 (0 : Int32) (0 : Int32) (1 : Int32) (1 : Int32) (1 : Int32) (0 : Int32) wf0 (-1 : Int32) (-1 : Int32) (0 : Int32) (-1 : Int32) wn1 wn2 wn3 (0 : Int32) hjJ3 n0 ZjJ3 fjJ3_0 fjJ3_1 fjJ3_2 fjJ3_3 fjJ3_4 fjJ3_22 fjJ3_23 fjJ3_24 fjJ3_25 fjJ3_26 ge_b3 ge_b7 ge_b17 ge_b29 ge_b42 ne_b3_b7 ne_b3_b17 ne_b3_b29 ne_b3_b42 ne_b7_b17 ne_b7_b29 ne_b7_b42 ne_b17_b29 ne_b17_b42 ne_b29_b42 ne_a_b3 ne_a_b7 ne_a_b17 ne_a_b29 ne_a_b42) hZ (hw _ mm153) (hw _ mm60) (by decide) (by decide)) (g := (mkF m 246 #[lR a, lR su, lJ 5, lS, lI 5, lI 5, lR b76, lR b89, lI 1, lI 1, lI 0, lI 0, lI 0, lI 1, lI vd, lI 4] [(.int 2), (.int 4), (.int vd), (.int 1), (.ref a)])) rfl (by rw [hml]; rfl) (Steps.refl _) (a := a) (by rw [e191]; exact q192) q192' (argsL := [(.int 1), (.int vd), (.int 4), (.int 2)]) (rest := []) (lenOf pd_10 rfl) rfl (by show 2 * 0 + _ ≤ _; exact Nat.le_of_eq rfl) (hb hby d16_246) (fun _ _ => ⟨rfl, e191, (by decide : 7 + 0 ≤ _), (by decide : 31 + 0 ≤ _)⟩)
    dsimp only [Pt.U, Pt.locs, Pt.cells, Pt.slots] at X192 l192 y192 z192 st192 hQ192
    rw [l192, y192, z192] at X192
    obtain ⟨hv192, N192q, K192, im192_0⟩ := hQ192
    rw [hv192] at st192
    have N192 := Fr.app N191 N192q
    have Z192 : n0 ≤ T192.heap.size := Nat.le_trans ZjJ3 K192.1
    have KK192 : Keep h0 T192.heap [a] := (KjJ3).trans K192 (allS (Or.inr sz_b3) (allS (Or.inr sz_b7) (allS (Or.inr sz_b17) (allS (Or.inr sz_b29) (allS (Or.inr sz_b42) all0)))))
    obtain ⟨f192_0, f192_1, f192_2, f192_3, f192_4⟩ := im192_0
    refine Ds (B := T192.setTop (mkF m 249 #[lR a, lR su, lJ 5, lS, lI 5, lI 5, lR b76, lR b89, lI 1, lI 1, lI 0, lI 0, lI 0, lI 1, lI vd, lI 4] [])) (fun _ k => st192.trans k) ?_
    refine Ds (B := T192.setTop (mkF m 252 #[lR a, lR su, lJ 5, lS, lI 5, lI 5, lR b76, lR b89, lI 1, lI 1, lI 0, lI 0, lI 0, lI 1, lI vd, lI 4] [(.int 0), (.ref su)])) (fun _ k => XS.aloadN X192.here hx rfl (hb hby d16_249) rfl rfl (XS.iload X192.here hx rfl (hb hby d16_250) rfl k)) ?_
    have c193 := (fjJ3_8.keep K192 (ninS ne_su_b3 (ninS ne_su_b7 (ninS ne_su_b17 (ninS ne_su_b29 (ninS ne_su_b42 nin0))))))
    have c194 := (fjJ3_9.keep K192 (ninS ne_u_b3 (ninS ne_u_b7 (ninS ne_u_b17 (ninS ne_u_b29 (ninS ne_u_b42 nin0))))))
    have c195 := (fjJ3_10.keep K192 (ninS ne_cc0_b3 (ninS ne_cc0_b7 (ninS ne_cc0_b17 (ninS ne_cc0_b29 (ninS ne_cc0_b42 nin0))))))
    have c197 := (fjJ3_7.keep K192)
    obtain ⟨cq196, kq196, q196a, q196b, q196c⟩ := isOf hZ rfl c197
    obtain ⟨_, _, ⟨T196, L196, k196, n196⟩, -, X196, ⟨Lc196, hQ196, l196, y196, z196⟩, st196⟩ := X192.virtualBack hx (y := (⟨"com/example/percurso/percurso/suite/Suite", "length", "(I)I"⟩ : MethodName)) (z := (⟨"com/example/percurso/percurso/suite/Suite", "length", "(I)I"⟩ : MethodName)) hown (mvT hZ (hw _ mm135)) (mvT hZ (hw _ mm136)) (notFace_of_selects (args := #[]) (mvT hZ (hw _ mm138))) (mvT hZ (hw _ mm138)) (mvT hZ (hw _ mm137)) (by decide) (backOf (W := 0) (rm19 l Z a0 hw [] su (0 : Int32) u ku [(.ref cc0), (.ref cc1), (.ref cc2)] cc0 kel0 (2 : Int32) [(.int va), (.int vd)] T192.heap n0 Z192 c193 c194 ⟨by decide, by decide⟩ rfl c195) hZ (hw _ mm139) (hw _ mm63) (by decide) (by decide)) q196a q196c (g := (mkF m 252 #[lR a, lR su, lJ 5, lS, lI 5, lI 5, lR b76, lR b89, lI 1, lI 1, lI 0, lI 0, lI 0, lI 1, lI vd, lI 4] [(.int 0), (.ref su)])) rfl (by rw [hml]; rfl) (Steps.refl _) (argsL := [(.int 0)]) (rest := []) (lenOf pd_9 rfl) rfl (by show 2 * 0 + _ ≤ _; exact Nat.le_of_eq rfl) (hb hby d16_252) (fun _ _ => ⟨rfl, rfl, (by decide : 7 + 0 ≤ _), (by decide : 31 + 0 ≤ _)⟩)
    dsimp only [Pt.U, Pt.locs, Pt.cells, Pt.slots] at X196 l196 y196 z196 st196 hQ196
    rw [l196, y196, z196] at X196
    obtain ⟨hv196, N196q, e196⟩ := hQ196
    rw [hv196] at st196
    have N196 := Fr.app N192 N196q
    refine Ds (B := T196.setTop (mkF m 255 #[lR a, lR su, lJ 5, lS, lI 5, lI 5, lR b76, lR b89, lI 1, lI 1, lI 0, lI 0, lI 0, lI 1, lI vd, lI 4] [(.int 2)])) (fun _ k => st196.trans k) ?_
    refine Ds (B := T196.setTop (mkF m 181 #[lR a, lR su, lJ 5, lS, lI 5, lI 5, lR b76, lR b89, lI 1, lI 1, lI 0, lI 1, lI 0, lI 1, lI vd, lI 4] [])) (fun _ k => XS.iload X196.here hx rfl (hb hby d16_255) rfl (XS.iconst X196.here hx rfl (hb hby d16_257) (XS.iadd X196.here hx rfl (hb hby d16_258) rfl (XS.icmpYes X196.here hx rfl (pc0 := 259) (pc' := 279) rfl (hb hby d16_259) rfl (flt (by decide : ¬ ((2 : Int32) < (2 : Int32)))).2.2.2 (by decide) (by decide) (XS.iinc X196.here hx rfl (hb hby d16_279) rfl (l' := #[lR a, lR su, lJ 5, lS, lI 5, lI 5, lR b76, lR b89, lI 1, lI 1, lI 0, lI 1, lI 0, lI 1, lI vd, lI 4]) rfl (XS.goto X196.here hx rfl (pc0 := 282) (pc' := 181) rfl (hb hby d16_282) (by decide) (by decide) k)))))) ?_
    refine Ds (B := T196.setTop (mkF m 292 #[lR a, lR su, lJ 5, lS, lI 5, lI 5, lR b76, lR b89, lI 0, lI 2, lI 0, lI 1, lI 0, lI 1, lI vd, lI 4] [])) (fun _ k => XS.iload X196.here hx rfl (hb hby d16_181) rfl (XS.iload X196.here hx rfl (hb hby d16_183) rfl (XS.icmpYes X196.here hx rfl (pc0 := 185) (pc' := 285) rfl (hb hby d16_185) rfl (flt (by decide : ¬ ((1 : Int32) < (1 : Int32)))).2.1 (by decide) (by decide) (XS.iload X196.here hx rfl (hb hby d16_285) rfl (XS.istore X196.here hx rfl (hb hby d16_287) rfl (l' := #[lR a, lR su, lJ 5, lS, lI 5, lI 5, lR b76, lR b89, lI 0, lI 1, lI 0, lI 1, lI 0, lI 1, lI vd, lI 4]) rfl (XS.iinc X196.here hx rfl (hb hby d16_289) rfl (l' := #[lR a, lR su, lJ 5, lS, lI 5, lI 5, lR b76, lR b89, lI 0, lI 2, lI 0, lI 1, lI 0, lI 1, lI vd, lI 4]) rfl k)))))) ?_
    refine Ds (B := T196.setTop (mkF m 295 #[lR a, lR su, lJ 5, lS, lI 5, lI 5, lR b76, lR b89, lI 0, lI 2, lI 0, lI 1, lI 0, lI 1, lI vd, lI 4] [])) (fun _ k => XS.goto X196.here hx rfl (pc0 := 292) (pc' := 170) rfl (hb hby d16_292) (by decide) (by decide) (XS.iload X196.here hx rfl (hb hby d16_170) rfl (XS.ifYes X196.here hx rfl (pc0 := 172) (pc' := 295) rfl (hb hby d16_172) rfl ((if0 _ _).trans (flt (by decide : ¬ ((0 : Int32) < (0 : Int32)))).2.2.2) (by decide) (by decide) k))) ?_
    refine Ds (B := T196.setTop (mkF m 298 #[lR a, lR su, lJ 5, lS, lI 5, lI 5, lR b76, lR b89, lI 0, lI 2, lI 0, lI 1, lI 0, lI 1, lI vd, lI 4] [(.int 5), (.ref a)])) (fun _ k => XS.aloadN X196.here hx rfl (hb hby d16_295) rfl rfl (XS.iload X196.here hx rfl (hb hby d16_296) rfl k)) ?_
    have c198 := (fjJ3_6.keep K192)
    have c199 := (fjJ3_5.keep K192 (ninS ne_a_b3 (ninS ne_a_b7 (ninS ne_a_b17 (ninS ne_a_b29 (ninS ne_a_b42 nin0))))))
    obtain ⟨T200, h200, X200, e200, W200, st200⟩ := putF X196 hx hZ hown (host := "") (Or.inl (hw _ mm154)) Via.refl e196 c199 c198 (Or.inr ⟨(hw _ mm155), rfl, hnm⟩) (hw _ mm59) (ty := .int) (by decide) rfl rfl (g := (mkF m 298 #[lR a, lR su, lJ 5, lS, lI 5, lI 5, lR b76, lR b89, lI 0, lI 2, lI 0, lI 1, lI 0, lI 1, lI vd, lI 4] [(.int 5), (.ref a)])) rfl rfl (hb hby d16_298)
    have F200 := Fld.same W200 c199
    have N200 := Fr.snoc X200 N196 gs
    have Z200 : n0 ≤ h200.size := Nat.le_trans Z192 (Keep.of_wr W200).1
    have KK200 : Keep h0 h200 [a] := (KK192).wr W200 (Or.inl (List.mem_of_getElem? (i := 0) rfl))
    refine Ds (B := T200.setTop (mkF m 301 #[lR a, lR su, lJ 5, lS, lI 5, lI 5, lR b76, lR b89, lI 0, lI 2, lI 0, lI 1, lI 0, lI 1, lI vd, lI 4] [])) (fun _ k => st200 _ k) ?_
    obtain ⟨fs, hr, hrun, hended, hW, hsame⟩ := X200.leave (v := none) (hlocks := hlk) (fun _ => rfl)
    have c202 := (Exa.wr W200 c198)
    have c203 := (Fld.other W200 (fjJ3_1.keep K192 (ninS ne_a_b3 (ninS ne_a_b7 (ninS ne_a_b17 (ninS ne_a_b29 (ninS ne_a_b42 nin0)))))) (Or.inr (slot_ne (Or.inr (hw _ mm123)) (Or.inr (hw _ mm155)) (by decide) (t := (.array .int)) (t' := .int) (by decide) (by decide))))
    have c204 := (Fld.other W200 (fjJ3_3.keep K192 (ninS ne_a_b3 (ninS ne_a_b7 (ninS ne_a_b17 (ninS ne_a_b29 (ninS ne_a_b42 nin0)))))) (Or.inr (slot_ne (Or.inr (hw _ mm127)) (Or.inr (hw _ mm155)) (by decide) (t := (.array .int)) (t' := .int) (by decide) (by decide))))
    have c205 := (Fld.other W200 (fjJ3_4.keep K192 (ninS ne_a_b3 (ninS ne_a_b7 (ninS ne_a_b17 (ninS ne_a_b29 (ninS ne_a_b42 nin0)))))) (Or.inr (slot_ne (Or.inr (hw _ mm129)) (Or.inr (hw _ mm155)) (by decide) (t := (.array .int)) (t' := .int) (by decide) (by decide))))
    have c206 := (f192_1.other W200 (Ne.symm ne_a_b7))
    have c207 := (f192_3.other W200 (Ne.symm ne_a_b29))
    have c208 := (f192_4.other W200 (Ne.symm ne_a_b42))
    refine Done.fin (X200.returnOut hx Bd.returns (hb hby d16_301) hr) hrun hended ⟨_, _, rfl, ?_, ⟨_, rfl⟩, hW, hsame.mono (by decide) (by decide)⟩
    show QrmPT Z a su u ku cc0 cc1 cc2 kel0 kel1 kel2 va vb vc vd h0 n0 _ T200.heap _
    rw [e200]
    exact ⟨b7, _, [(.int (-1)), (.int va), (.int wi2), (.int wi3), (.int vd)], b29, _, [(.int wf0), (.int 4), (.int (-1)), (.int (-1)), (.int (-1))], b42, _, [(.int (-1)), (.int wn1), (.int wn2), (.int wn3), (.int (-1))], wf0, (4 : Int32), wl0, rfl, N200, KK200, c202, c203, c204, c205, c206, c207, c208, hTj⟩
  rcases own_tri va vb with hk | hk | hk
  · have ho_va_vb := hk
    clear hk
    have c209 := (Fld.other W155 (Fld.other W153 (c130.keep K142 (ninS ne_a_b3 (ninS ne_a_b7 (ninS ne_a_b17 (ninS ne_a_b29 (ninS ne_a_b42 nin0)))))) (Or.inl ne_a_b76)) (Or.inl ne_a_b89))
    have c210 := (Fld.other W155 (Fld.other W153 (c131.keep K142 (ninS ne_a_b3 (ninS ne_a_b7 (ninS ne_a_b17 (ninS ne_a_b29 (ninS ne_a_b42 nin0)))))) (Or.inl ne_a_b76)) (Or.inl ne_a_b89))
    have c211 := (Fld.other W155 (Fld.other W153 (c132.keep K142 (ninS ne_a_b3 (ninS ne_a_b7 (ninS ne_a_b17 (ninS ne_a_b29 (ninS ne_a_b42 nin0)))))) (Or.inl ne_a_b76)) (Or.inl ne_a_b89))
    have c212 := ((f142_1.other W153 ne_b7_b76).other W155 ne_b7_b89)
    have c213 := ((f142_3.other W153 ne_b29_b76).other W155 ne_b29_b89)
    have c214 := ((f142_4.other W153 ne_b42_b76).other W155 ne_b42_b89)
    have c216 := (Exa.wr W155 (Exa.wr W153 (c137.keep K142)))
    obtain ⟨cq215, kq215, q215a, q215b, q215c⟩ := isOf hZ e163 c216
    obtain ⟨_, _, ⟨T215, L215, k215, n215⟩, -, X215, ⟨Lc215, hQ215, l215, y215, z215⟩, st215⟩ := X163.virtualBack hx (y := (⟨"com/example/percurso/percurso/suite/PrefixTree", "child", "(II)I"⟩ : MethodName)) (z := (⟨"com/example/percurso/percurso/suite/PrefixTree", "child", "(II)I"⟩ : MethodName)) hown (mvT hZ (hw _ mm145)) (mvT hZ (hw _ mm146)) (notFace_of_selects (args := #[]) (mvT hZ (hw _ mm148))) (mvT hZ (hw _ mm148)) (mvT hZ (hw _ mm147)) (by decide) (backOf (W := 0) (rmCH_1 l Z a0 hw [] a (0 : Int32) vb b7 k7 [(.int (-1)), (.int va), (.int 0), (.int 0), (.int 0)] b29 k29 [(.int 1), (.int (-1)), (.int 0), (.int 0), (.int 0)] b42 k42 [(.int (-1)), (.int (-1)), (.int 0), (.int 0), (.int 0)] (1 : Int32) va h155 n0 Z155 c209 c210 c211 c212 c213 c214 ⟨by decide, by decide⟩ rfl ⟨by decide, by decide⟩ rfl rfl) hZ (hw _ mm149) (hw _ mm60) (by decide) (by decide)) q215a q215c (g := (mkF m 217 #[lR a, lR su, lJ 5, lS, lI 5, lI 2, lR b76, lR b89, lI 3, lI 0, lI 1, lI 1, lI 1, lI 0, lI vb, lI 1] [(.int vb), (.int 0), (.ref a)])) rfl (by rw [hml]; rfl) (Steps.refl _) (argsL := [(.int 0), (.int vb)]) (rest := []) (lenOf pd_1 rfl) rfl (by show 2 * 0 + _ ≤ _; exact Nat.le_of_eq rfl) (hb hby d16_217) (fun _ _ => ⟨rfl, e163, (by decide : 7 + 0 ≤ _), (by decide : 31 + 0 ≤ _)⟩)
    dsimp only [Pt.U, Pt.locs, Pt.cells, Pt.slots] at X215 l215 y215 z215 st215 hQ215
    rw [l215, y215, z215] at X215
    obtain ⟨hv215, N215q, e215⟩ := hQ215
    rw [show own_find [((1 : Int32), va)] vb = (-1 : Int32) from (own_find_lt ho_va_vb rfl)] at hv215
    rw [hv215] at st215
    have N215 := Fr.app N163 N215q
    refine Ds (B := T215.setTop (mkF m 220 #[lR a, lR su, lJ 5, lS, lI 5, lI 2, lR b76, lR b89, lI 3, lI 0, lI 1, lI 1, lI 1, lI 0, lI vb, lI 1] [(.int (-1))])) (fun _ k => st215.trans k) ?_
    refine Ds (B := T215.setTop (mkF m 233 #[lR a, lR su, lJ 5, lS, lI 5, lI 3, lR b76, lR b89, lI 3, lI 0, lI 1, lI 1, lI 1, lI 0, lI vb, lI (-1)] [(.int 2)])) (fun _ k => XS.istore X215.here hx rfl (hb hby d16_220) rfl (l' := #[lR a, lR su, lJ 5, lS, lI 5, lI 2, lR b76, lR b89, lI 3, lI 0, lI 1, lI 1, lI 1, lI 0, lI vb, lI (-1)]) rfl (XS.iload X215.here hx rfl (hb hby d16_222) rfl (XS.iconst X215.here hx rfl (hb hby d16_224) (XS.icmpNo X215.here hx rfl (hb hby d16_225) rfl (teq (rfl : (-1 : Int32) = (-1 : Int32))).2 (XS.iload X215.here hx rfl (hb hby d16_228) rfl (XS.iinc X215.here hx rfl (hb hby d16_230) rfl (l' := #[lR a, lR su, lJ 5, lS, lI 5, lI 3, lR b76, lR b89, lI 3, lI 0, lI 1, lI 1, lI 1, lI 0, lI vb, lI (-1)]) rfl k)))))) ?_
    refine Ds (B := T215.setTop (mkF m 244 #[lR a, lR su, lJ 5, lS, lI 5, lI 3, lR b76, lR b89, lI 3, lI 0, lI 1, lI 1, lI 1, lI 0, lI vb, lI 2] [(.int 0), (.int 2), (.int vb), (.int 0), (.ref a)])) (fun _ k => XS.istore X215.here hx rfl (hb hby d16_233) rfl (l' := #[lR a, lR su, lJ 5, lS, lI 5, lI 3, lR b76, lR b89, lI 3, lI 0, lI 1, lI 1, lI 1, lI 0, lI vb, lI 2]) rfl (XS.aloadN X215.here hx rfl (hb hby d16_235) rfl rfl (XS.iload X215.here hx rfl (hb hby d16_236) rfl (XS.iload X215.here hx rfl (hb hby d16_238) rfl (XS.iload X215.here hx rfl (hb hby d16_240) rfl (XS.iload X215.here hx rfl (hb hby d16_242) rfl k)))))) ?_
    refine Ds (B := T215.setTop (mkF m 246 #[lR a, lR su, lJ 5, lS, lI 5, lI 3, lR b76, lR b89, lI 3, lI 0, lI 1, lI 1, lI 1, lI 0, lI vb, lI 2] [(.int 1), (.int 2), (.int vb), (.int 0), (.ref a)])) (fun _ k => XS.iconst X215.here hx rfl (hb hby d16_244) (XS.iadd X215.here hx rfl (hb hby d16_245) rfl k)) ?_
    have c217 := (Fld.other W155 (Fld.other W153 (c138.keep K142 (ninS ne_a_b3 (ninS ne_a_b7 (ninS ne_a_b17 (ninS ne_a_b29 (ninS ne_a_b42 nin0)))))) (Or.inl ne_a_b76)) (Or.inl ne_a_b89))
    have c218 := (Fld.other W155 (Fld.other W153 (c139.keep K142 (ninS ne_a_b3 (ninS ne_a_b7 (ninS ne_a_b17 (ninS ne_a_b29 (ninS ne_a_b42 nin0)))))) (Or.inl ne_a_b76)) (Or.inl ne_a_b89))
    have c219 := ((f142_0.other W153 ne_b3_b76).other W155 ne_b3_b89)
    have c220 := ((f142_2.other W153 ne_b17_b76).other W155 ne_b17_b89)
    obtain ⟨cq221, q221, q221'⟩ := c216.cell
    obtain ⟨_, _, ⟨T221, L221, k221, n221⟩, -, X221, ⟨Lc221, hQ221, l221, y221, z221⟩, st221⟩ := X215.privateBack hx (y := (⟨"com/example/percurso/percurso/suite/PrefixTree", "link", "(IIII)V"⟩ : MethodName)) hown (mvT hZ (hw _ mm150)) (mvT hZ (hw _ mm151)) (mvT hZ (own_selp (y := (⟨"com/example/percurso/percurso/suite/PrefixTree", "link", "(IIII)V"⟩ : MethodName)) (hw _ mm59) (hw _ mm152) (hw _ mm151) (by decide))) (Cond.privateMethod_at (mvP hZ (hw _ mm152) (args := #[]))) (mvT hZ (hw _ mm153)) (by decide) (backOf (W := 0) (rmLK_3 l Z a0 hw [] a vb b3 k3 b7 k7 b17 k17 b29 k29 b42 k42 (-1 : Int32) (0 : Int32) (0 : Int32) (0 : Int32) (0 : Int32) (-1 : Int32) va (0 : Int32) (0 : Int32) (0 : Int32) (0 : Int32) (1 : Int32) (0 : Int32) (0 : Int32) (0 : Int32) (-1 : Int32) (0 : Int32) (0 : Int32) (0 : Int32) (-1 : Int32) (0 : Int32) (0 : Int32) (0 : Int32) h155 n0 Z155 c217 c209 c218 c210 c211 c219 c212 c220 c213 c214 ge_b3 ge_b7 ge_b17 ge_b29 ge_b42 ne_b3_b7 ne_b3_b17 ne_b3_b29 ne_b3_b42 ne_b7_b17 ne_b7_b29 ne_b7_b42 ne_b17_b29 ne_b17_b42 ne_b29_b42 ne_a_b3 ne_a_b7 ne_a_b17 ne_a_b29 ne_a_b42) hZ (hw _ mm153) (hw _ mm60) (by decide) (by decide)) (g := (mkF m 246 #[lR a, lR su, lJ 5, lS, lI 5, lI 3, lR b76, lR b89, lI 3, lI 0, lI 1, lI 1, lI 1, lI 0, lI vb, lI 2] [(.int 1), (.int 2), (.int vb), (.int 0), (.ref a)])) rfl (by rw [hml]; rfl) (Steps.refl _) (a := a) (by rw [e215]; exact q221) q221' (argsL := [(.int 0), (.int vb), (.int 2), (.int 1)]) (rest := []) (lenOf pd_10 rfl) rfl (by show 2 * 0 + _ ≤ _; exact Nat.le_of_eq rfl) (hb hby d16_246) (fun _ _ => ⟨rfl, e215, (by decide : 7 + 0 ≤ _), (by decide : 31 + 0 ≤ _)⟩)
    dsimp only [Pt.U, Pt.locs, Pt.cells, Pt.slots] at X221 l221 y221 z221 st221 hQ221
    rw [l221, y221, z221] at X221
    have c222 := (Exa.wr W155 (Exa.wr W153 (c143.keep K142)))
    have c223 := (Exa.wr W155 (Exa.wr W153 (c144.keep K142)))
    have c224 := (Exa.wr W155 (Exa.wr W153 (c145.keep K142)))
    have c225 := (Exa.wr W155 (Exa.wr W153 (c146.keep K142)))
    have c226 := (Exa.wr W155 (Exa.wr W153 (c147.keep K142)))
    obtain ⟨hv221, N221q, K221, im221_0, im221_1⟩ := hQ221
    rw [hv221] at st221
    have N221 := Fr.app N215 N221q
    have Z221 : n0 ≤ T221.heap.size := Nat.le_trans Z155 K221.1
    have KK221 : Keep h0 T221.heap [a] := (KK155).trans K221 (allS (Or.inr sz_b3) (allS (Or.inr sz_b7) (allS (Or.inr sz_b17) (allS (Or.inr sz_b29) (allS (Or.inr sz_b42) all0)))))
    obtain ⟨f221_0, f221_1, f221_2, f221_3, f221_4⟩ := im221_1 ho_va_vb
    refine Ds (B := T221.setTop (mkF m 249 #[lR a, lR su, lJ 5, lS, lI 5, lI 3, lR b76, lR b89, lI 3, lI 0, lI 1, lI 1, lI 1, lI 0, lI vb, lI 2] [])) (fun _ k => st221.trans k) ?_
    refine Ds (B := T221.setTop (mkF m 252 #[lR a, lR su, lJ 5, lS, lI 5, lI 3, lR b76, lR b89, lI 3, lI 0, lI 1, lI 1, lI 1, lI 0, lI vb, lI 2] [(.int 1), (.ref su)])) (fun _ k => XS.aloadN X221.here hx rfl (hb hby d16_249) rfl rfl (XS.iload X221.here hx rfl (hb hby d16_250) rfl k)) ?_
    have c227 := (c160.keep K221 (ninS ne_su_b3 (ninS ne_su_b7 (ninS ne_su_b17 (ninS ne_su_b29 (ninS ne_su_b42 nin0))))))
    have c228 := (c161.keep K221 (ninS ne_u_b3 (ninS ne_u_b7 (ninS ne_u_b17 (ninS ne_u_b29 (ninS ne_u_b42 nin0))))))
    have c229 := (c162.keep K221 (ninS ne_cc1_b3 (ninS ne_cc1_b7 (ninS ne_cc1_b17 (ninS ne_cc1_b29 (ninS ne_cc1_b42 nin0))))))
    have c231 := (c164.keep K221)
    obtain ⟨cq230, kq230, q230a, q230b, q230c⟩ := isOf hZ rfl c231
    obtain ⟨_, _, ⟨T230, L230, k230, n230⟩, -, X230, ⟨Lc230, hQ230, l230, y230, z230⟩, st230⟩ := X221.virtualBack hx (y := (⟨"com/example/percurso/percurso/suite/Suite", "length", "(I)I"⟩ : MethodName)) (z := (⟨"com/example/percurso/percurso/suite/Suite", "length", "(I)I"⟩ : MethodName)) hown (mvT hZ (hw _ mm135)) (mvT hZ (hw _ mm136)) (notFace_of_selects (args := #[]) (mvT hZ (hw _ mm138))) (mvT hZ (hw _ mm138)) (mvT hZ (hw _ mm137)) (by decide) (backOf (W := 0) (rm19 l Z a0 hw [] su (1 : Int32) u ku [(.ref cc0), (.ref cc1), (.ref cc2)] cc1 kel1 (1 : Int32) [(.int vb)] T221.heap n0 Z221 c227 c228 ⟨by decide, by decide⟩ rfl c229) hZ (hw _ mm139) (hw _ mm63) (by decide) (by decide)) q230a q230c (g := (mkF m 252 #[lR a, lR su, lJ 5, lS, lI 5, lI 3, lR b76, lR b89, lI 3, lI 0, lI 1, lI 1, lI 1, lI 0, lI vb, lI 2] [(.int 1), (.ref su)])) rfl (by rw [hml]; rfl) (Steps.refl _) (argsL := [(.int 1)]) (rest := []) (lenOf pd_9 rfl) rfl (by show 2 * 0 + _ ≤ _; exact Nat.le_of_eq rfl) (hb hby d16_252) (fun _ _ => ⟨rfl, rfl, (by decide : 7 + 0 ≤ _), (by decide : 31 + 0 ≤ _)⟩)
    dsimp only [Pt.U, Pt.locs, Pt.cells, Pt.slots] at X230 l230 y230 z230 st230 hQ230
    rw [l230, y230, z230] at X230
    obtain ⟨hv230, N230q, e230⟩ := hQ230
    rw [hv230] at st230
    have N230 := Fr.app N221 N230q
    refine Ds (B := T230.setTop (mkF m 255 #[lR a, lR su, lJ 5, lS, lI 5, lI 3, lR b76, lR b89, lI 3, lI 0, lI 1, lI 1, lI 1, lI 0, lI vb, lI 2] [(.int 1)])) (fun _ k => st230.trans k) ?_
    refine Ds (B := T230.setTop (mkF m 181 #[lR a, lR su, lJ 5, lS, lI 5, lI 3, lR b76, lR b89, lI 3, lI 0, lI 1, lI 2, lI 1, lI 0, lI vb, lI 2] [])) (fun _ k => XS.iload X230.here hx rfl (hb hby d16_255) rfl (XS.iconst X230.here hx rfl (hb hby d16_257) (XS.iadd X230.here hx rfl (hb hby d16_258) rfl (XS.icmpYes X230.here hx rfl (pc0 := 259) (pc' := 279) rfl (hb hby d16_259) rfl (flt (by decide : ¬ ((1 : Int32) < (1 : Int32)))).2.2.2 (by decide) (by decide) (XS.iinc X230.here hx rfl (hb hby d16_279) rfl (l' := #[lR a, lR su, lJ 5, lS, lI 5, lI 3, lR b76, lR b89, lI 3, lI 0, lI 1, lI 2, lI 1, lI 0, lI vb, lI 2]) rfl (XS.goto X230.here hx rfl (pc0 := 282) (pc' := 181) rfl (hb hby d16_282) (by decide) (by decide) k)))))) ?_
    refine Ds (B := T230.setTop (mkF m 192 #[lR a, lR su, lJ 5, lS, lI 5, lI 3, lR b76, lR b89, lI 3, lI 0, lI 1, lI 2, lI 1, lI 0, lI vb, lI 2] [(.int 2), (.ref b76)])) (fun _ k => XS.iload X230.here hx rfl (hb hby d16_181) rfl (XS.iload X230.here hx rfl (hb hby d16_183) rfl (XS.icmpNo X230.here hx rfl (hb hby d16_185) rfl (tlt (by decide : (2 : Int32) < (3 : Int32))).2.1 (XS.aload X230.here hx rfl (hb hby d16_188) rfl rfl (XS.iload X230.here hx rfl (hb hby d16_190) rfl k))))) ?_
    have c233 := (c158.keep K221 (ninS (Ne.symm ne_b3_b76) (ninS (Ne.symm ne_b7_b76) (ninS (Ne.symm ne_b17_b76) (ninS (Ne.symm ne_b29_b76) (ninS (Ne.symm ne_b42_b76) nin0))))))
    obtain ⟨cl232, Ar232, q232, S232, M232, H232, G232⟩ := id c233
    have hin232 : ¬ ((2 : Int32) < 0 ∨ cl232.slots.size ≤ ((2 : Int32)).toNatClampNeg) := inb_of S232 ⟨by decide, by decide⟩
    have hat232 : cl232.slots[((2 : Int32)).toNatClampNeg]? = some (.int 2) := Has.at H232 hin232 rfl
    refine Ds (B := T230.setTop (mkF m 193 #[lR a, lR su, lJ 5, lS, lI 5, lI 3, lR b76, lR b89, lI 3, lI 0, lI 1, lI 2, lI 1, lI 0, lI vb, lI 2] [(.int 2)])) (fun _ k => X230.iaload hx (j := (2 : Int32)) (v := (.int 2)) (by rw [e230]; exact Ar232.1) (State.isArrayOf_alike hZ.alike Ar232.2.1) Ar232.2.2 hin232 hat232 (g := (mkF m 192 #[lR a, lR su, lJ 5, lS, lI 5, lI 3, lR b76, lR b89, lI 3, lI 0, lI 1, lI 2, lI 1, lI 0, lI vb, lI 2] [(.int 2), (.ref b76)])) rfl rfl (hb hby d16_192) _ k) ?_
    refine Ds (B := T230.setTop (mkF m 199 #[lR a, lR su, lJ 5, lS, lI 5, lI 3, lR b76, lR b89, lI 3, lI 0, lI 1, lI 2, lI 2, lI 0, lI vb, lI 2] [(.int 2), (.ref b89)])) (fun _ k => XS.istore X230.here hx rfl (hb hby d16_193) rfl (l' := #[lR a, lR su, lJ 5, lS, lI 5, lI 3, lR b76, lR b89, lI 3, lI 0, lI 1, lI 2, lI 2, lI 0, lI vb, lI 2]) rfl (XS.aload X230.here hx rfl (hb hby d16_195) rfl rfl (XS.iload X230.here hx rfl (hb hby d16_197) rfl k))) ?_
    have c235 := (V155.keep K221 (ninS (Ne.symm ne_b3_b89) (ninS (Ne.symm ne_b7_b89) (ninS (Ne.symm ne_b17_b89) (ninS (Ne.symm ne_b29_b89) (ninS (Ne.symm ne_b42_b89) nin0))))))
    obtain ⟨cl234, Ar234, q234, S234, M234, H234, G234⟩ := id c235
    have hin234 : ¬ ((2 : Int32) < 0 ∨ cl234.slots.size ≤ ((2 : Int32)).toNatClampNeg) := inb_of S234 ⟨by decide, by decide⟩
    have hat234 : cl234.slots[((2 : Int32)).toNatClampNeg]? = some (.int 0) := Has.at H234 hin234 rfl
    refine Ds (B := T230.setTop (mkF m 200 #[lR a, lR su, lJ 5, lS, lI 5, lI 3, lR b76, lR b89, lI 3, lI 0, lI 1, lI 2, lI 2, lI 0, lI vb, lI 2] [(.int 0)])) (fun _ k => X230.iaload hx (j := (2 : Int32)) (v := (.int 0)) (by rw [e230]; exact Ar234.1) (State.isArrayOf_alike hZ.alike Ar234.2.1) Ar234.2.2 hin234 hat234 (g := (mkF m 199 #[lR a, lR su, lJ 5, lS, lI 5, lI 3, lR b76, lR b89, lI 3, lI 0, lI 1, lI 2, lI 2, lI 0, lI vb, lI 2] [(.int 2), (.ref b89)])) rfl rfl (hb hby d16_199) _ k) ?_
    refine Ds (B := T230.setTop (mkF m 207 #[lR a, lR su, lJ 5, lS, lI 5, lI 3, lR b76, lR b89, lI 3, lI 0, lI 1, lI 2, lI 2, lI 0, lI vb, lI 2] [(.int 0), (.int 2), (.ref su)])) (fun _ k => XS.istore X230.here hx rfl (hb hby d16_200) rfl (l' := #[lR a, lR su, lJ 5, lS, lI 5, lI 3, lR b76, lR b89, lI 3, lI 0, lI 1, lI 2, lI 2, lI 0, lI vb, lI 2]) rfl (XS.aloadN X230.here hx rfl (hb hby d16_202) rfl rfl (XS.iload X230.here hx rfl (hb hby d16_203) rfl (XS.iload X230.here hx rfl (hb hby d16_205) rfl k)))) ?_
    have c236 := (((((c118.other W120 ne_cc2_b76).keep K142 (ninS ne_cc2_b3 (ninS ne_cc2_b7 (ninS ne_cc2_b17 (ninS ne_cc2_b29 (ninS ne_cc2_b42 nin0)))))).other W153 ne_cc2_b76).other W155 ne_cc2_b89).keep K221 (ninS ne_cc2_b3 (ninS ne_cc2_b7 (ninS ne_cc2_b17 (ninS ne_cc2_b29 (ninS ne_cc2_b42 nin0))))))
    obtain ⟨cq237, kq237, q237a, q237b, q237c⟩ := isOf hZ e230 c231
    obtain ⟨_, _, ⟨T237, L237, k237, n237⟩, -, X237, ⟨Lc237, hQ237, l237, y237, z237⟩, st237⟩ := X230.virtualBack hx (y := (⟨"com/example/percurso/percurso/suite/Suite", "input", "(II)I"⟩ : MethodName)) (z := (⟨"com/example/percurso/percurso/suite/Suite", "input", "(II)I"⟩ : MethodName)) hown (mvT hZ (hw _ mm140)) (mvT hZ (hw _ mm141)) (notFace_of_selects (args := #[]) (mvT hZ (hw _ mm143))) (mvT hZ (hw _ mm143)) (mvT hZ (hw _ mm142)) (by decide) (backOf (W := 0) (rm20 l Z a0 hw [] su (2 : Int32) (0 : Int32) u ku [(.ref cc0), (.ref cc1), (.ref cc2)] cc2 kel2 (1 : Int32) [(.int vc)] vc T221.heap n0 Z221 c227 c228 ⟨by decide, by decide⟩ rfl c236 ⟨by decide, by decide⟩ rfl) hZ (hw _ mm144) (hw _ mm63) (by decide) (by decide)) q237a q237c (g := (mkF m 207 #[lR a, lR su, lJ 5, lS, lI 5, lI 3, lR b76, lR b89, lI 3, lI 0, lI 1, lI 2, lI 2, lI 0, lI vb, lI 2] [(.int 0), (.int 2), (.ref su)])) rfl (by rw [hml]; rfl) (Steps.refl _) (argsL := [(.int 2), (.int 0)]) (rest := []) (lenOf pd_1 rfl) rfl (by show 2 * 0 + _ ≤ _; exact Nat.le_of_eq rfl) (hb hby d16_207) (fun _ _ => ⟨rfl, e230, (by decide : 7 + 0 ≤ _), (by decide : 31 + 0 ≤ _)⟩)
    dsimp only [Pt.U, Pt.locs, Pt.cells, Pt.slots] at X237 l237 y237 z237 st237 hQ237
    rw [l237, y237, z237] at X237
    obtain ⟨hv237, N237q, e237⟩ := hQ237
    rw [hv237] at st237
    have N237 := Fr.app N230 N237q
    refine Ds (B := T237.setTop (mkF m 210 #[lR a, lR su, lJ 5, lS, lI 5, lI 3, lR b76, lR b89, lI 3, lI 0, lI 1, lI 2, lI 2, lI 0, lI vb, lI 2] [(.int vc)])) (fun _ k => st237.trans k) ?_
    refine Ds (B := T237.setTop (mkF m 217 #[lR a, lR su, lJ 5, lS, lI 5, lI 3, lR b76, lR b89, lI 3, lI 0, lI 1, lI 2, lI 2, lI 0, lI vc, lI 2] [(.int vc), (.int 0), (.ref a)])) (fun _ k => XS.istore X237.here hx rfl (hb hby d16_210) rfl (l' := #[lR a, lR su, lJ 5, lS, lI 5, lI 3, lR b76, lR b89, lI 3, lI 0, lI 1, lI 2, lI 2, lI 0, lI vc, lI 2]) rfl (XS.aloadN X237.here hx rfl (hb hby d16_212) rfl rfl (XS.iload X237.here hx rfl (hb hby d16_213) rfl (XS.iload X237.here hx rfl (hb hby d16_215) rfl k)))) ?_
    rcases own_tri va vc with hk | hk | hk
    · have ho_va_vc := hk
      clear hk
      rcases own_tri vb vc with hk | hk | hk
      · have ho_vb_vc := hk
        clear hk
        have c238 := (c209.keep K221 (ninS ne_a_b3 (ninS ne_a_b7 (ninS ne_a_b17 (ninS ne_a_b29 (ninS ne_a_b42 nin0))))))
        have c239 := (c210.keep K221 (ninS ne_a_b3 (ninS ne_a_b7 (ninS ne_a_b17 (ninS ne_a_b29 (ninS ne_a_b42 nin0))))))
        have c240 := (c211.keep K221 (ninS ne_a_b3 (ninS ne_a_b7 (ninS ne_a_b17 (ninS ne_a_b29 (ninS ne_a_b42 nin0))))))
        have c242 := (c216.keep K221)
        obtain ⟨cq241, kq241, q241a, q241b, q241c⟩ := isOf hZ e237 c242
        obtain ⟨_, _, ⟨T241, L241, k241, n241⟩, -, X241, ⟨Lc241, hQ241, l241, y241, z241⟩, st241⟩ := X237.virtualBack hx (y := (⟨"com/example/percurso/percurso/suite/PrefixTree", "child", "(II)I"⟩ : MethodName)) (z := (⟨"com/example/percurso/percurso/suite/PrefixTree", "child", "(II)I"⟩ : MethodName)) hown (mvT hZ (hw _ mm145)) (mvT hZ (hw _ mm146)) (notFace_of_selects (args := #[]) (mvT hZ (hw _ mm148))) (mvT hZ (hw _ mm148)) (mvT hZ (hw _ mm147)) (by decide) (backOf (W := 0) (rmCH_2 l Z a0 hw [] a (0 : Int32) vc b7 k7 [(.int (-1)), (.int va), (.int vb), (.int 0), (.int 0)] b29 k29 [(.int 1), (.int (-1)), (.int (-1)), (.int 0), (.int 0)] b42 k42 [(.int (-1)), (.int 2), (.int (-1)), (.int 0), (.int 0)] (1 : Int32) (2 : Int32) va vb T221.heap n0 Z221 c238 c239 c240 f221_1 f221_3 f221_4 ⟨by decide, by decide⟩ rfl ⟨by decide, by decide⟩ rfl rfl ⟨by decide, by decide⟩ rfl rfl) hZ (hw _ mm149) (hw _ mm60) (by decide) (by decide)) q241a q241c (g := (mkF m 217 #[lR a, lR su, lJ 5, lS, lI 5, lI 3, lR b76, lR b89, lI 3, lI 0, lI 1, lI 2, lI 2, lI 0, lI vc, lI 2] [(.int vc), (.int 0), (.ref a)])) rfl (by rw [hml]; rfl) (Steps.refl _) (argsL := [(.int 0), (.int vc)]) (rest := []) (lenOf pd_1 rfl) rfl (by show 2 * 0 + _ ≤ _; exact Nat.le_of_eq rfl) (hb hby d16_217) (fun _ _ => ⟨rfl, e237, (by decide : 7 + 0 ≤ _), (by decide : 31 + 0 ≤ _)⟩)
        dsimp only [Pt.U, Pt.locs, Pt.cells, Pt.slots] at X241 l241 y241 z241 st241 hQ241
        rw [l241, y241, z241] at X241
        obtain ⟨hv241, N241q, e241⟩ := hQ241
        rw [show own_find [((1 : Int32), va), ((2 : Int32), vb)] vc = (-1 : Int32) from (own_find_lt ho_va_vc (own_find_lt ho_vb_vc rfl))] at hv241
        rw [hv241] at st241
        have N241 := Fr.app N237 N241q
        refine Ds (B := T241.setTop (mkF m 220 #[lR a, lR su, lJ 5, lS, lI 5, lI 3, lR b76, lR b89, lI 3, lI 0, lI 1, lI 2, lI 2, lI 0, lI vc, lI 2] [(.int (-1))])) (fun _ k => st241.trans k) ?_
        refine Ds (B := T241.setTop (mkF m 233 #[lR a, lR su, lJ 5, lS, lI 5, lI 4, lR b76, lR b89, lI 3, lI 0, lI 1, lI 2, lI 2, lI 0, lI vc, lI (-1)] [(.int 3)])) (fun _ k => XS.istore X241.here hx rfl (hb hby d16_220) rfl (l' := #[lR a, lR su, lJ 5, lS, lI 5, lI 3, lR b76, lR b89, lI 3, lI 0, lI 1, lI 2, lI 2, lI 0, lI vc, lI (-1)]) rfl (XS.iload X241.here hx rfl (hb hby d16_222) rfl (XS.iconst X241.here hx rfl (hb hby d16_224) (XS.icmpNo X241.here hx rfl (hb hby d16_225) rfl (teq (rfl : (-1 : Int32) = (-1 : Int32))).2 (XS.iload X241.here hx rfl (hb hby d16_228) rfl (XS.iinc X241.here hx rfl (hb hby d16_230) rfl (l' := #[lR a, lR su, lJ 5, lS, lI 5, lI 4, lR b76, lR b89, lI 3, lI 0, lI 1, lI 2, lI 2, lI 0, lI vc, lI (-1)]) rfl k)))))) ?_
        refine Ds (B := T241.setTop (mkF m 244 #[lR a, lR su, lJ 5, lS, lI 5, lI 4, lR b76, lR b89, lI 3, lI 0, lI 1, lI 2, lI 2, lI 0, lI vc, lI 3] [(.int 0), (.int 3), (.int vc), (.int 0), (.ref a)])) (fun _ k => XS.istore X241.here hx rfl (hb hby d16_233) rfl (l' := #[lR a, lR su, lJ 5, lS, lI 5, lI 4, lR b76, lR b89, lI 3, lI 0, lI 1, lI 2, lI 2, lI 0, lI vc, lI 3]) rfl (XS.aloadN X241.here hx rfl (hb hby d16_235) rfl rfl (XS.iload X241.here hx rfl (hb hby d16_236) rfl (XS.iload X241.here hx rfl (hb hby d16_238) rfl (XS.iload X241.here hx rfl (hb hby d16_240) rfl (XS.iload X241.here hx rfl (hb hby d16_242) rfl k)))))) ?_
        refine Ds (B := T241.setTop (mkF m 246 #[lR a, lR su, lJ 5, lS, lI 5, lI 4, lR b76, lR b89, lI 3, lI 0, lI 1, lI 2, lI 2, lI 0, lI vc, lI 3] [(.int 1), (.int 3), (.int vc), (.int 0), (.ref a)])) (fun _ k => XS.iconst X241.here hx rfl (hb hby d16_244) (XS.iadd X241.here hx rfl (hb hby d16_245) rfl k)) ?_
        have c243 := (c217.keep K221 (ninS ne_a_b3 (ninS ne_a_b7 (ninS ne_a_b17 (ninS ne_a_b29 (ninS ne_a_b42 nin0))))))
        have c244 := (c218.keep K221 (ninS ne_a_b3 (ninS ne_a_b7 (ninS ne_a_b17 (ninS ne_a_b29 (ninS ne_a_b42 nin0))))))
        obtain ⟨cq245, q245, q245'⟩ := c242.cell
        obtain ⟨_, _, ⟨T245, L245, k245, n245⟩, -, X245, ⟨Lc245, hQ245, l245, y245, z245⟩, st245⟩ := X241.privateBack hx (y := (⟨"com/example/percurso/percurso/suite/PrefixTree", "link", "(IIII)V"⟩ : MethodName)) hown (mvT hZ (hw _ mm150)) (mvT hZ (hw _ mm151)) (mvT hZ (own_selp (y := (⟨"com/example/percurso/percurso/suite/PrefixTree", "link", "(IIII)V"⟩ : MethodName)) (hw _ mm59) (hw _ mm152) (hw _ mm151) (by decide))) (Cond.privateMethod_at (mvP hZ (hw _ mm152) (args := #[]))) (mvT hZ (hw _ mm153)) (by decide) (backOf (W := 0) (rmLK_4 l Z a0 hw [] a vc b3 k3 b7 k7 b17 k17 b29 k29 b42 k42 (-1 : Int32) (0 : Int32) (0 : Int32) (0 : Int32) (0 : Int32) (-1 : Int32) va vb (0 : Int32) (0 : Int32) (0 : Int32) (1 : Int32) (1 : Int32) (0 : Int32) (0 : Int32) (-1 : Int32) (-1 : Int32) (0 : Int32) (0 : Int32) (-1 : Int32) (0 : Int32) (0 : Int32) T221.heap n0 Z221 c243 c238 c244 c239 c240 f221_0 f221_1 f221_2 f221_3 f221_4 ge_b3 ge_b7 ge_b17 ge_b29 ge_b42 ne_b3_b7 ne_b3_b17 ne_b3_b29 ne_b3_b42 ne_b7_b17 ne_b7_b29 ne_b7_b42 ne_b17_b29 ne_b17_b42 ne_b29_b42 ne_a_b3 ne_a_b7 ne_a_b17 ne_a_b29 ne_a_b42) hZ (hw _ mm153) (hw _ mm60) (by decide) (by decide)) (g := (mkF m 246 #[lR a, lR su, lJ 5, lS, lI 5, lI 4, lR b76, lR b89, lI 3, lI 0, lI 1, lI 2, lI 2, lI 0, lI vc, lI 3] [(.int 1), (.int 3), (.int vc), (.int 0), (.ref a)])) rfl (by rw [hml]; rfl) (Steps.refl _) (a := a) (by rw [e241]; exact q245) q245' (argsL := [(.int 0), (.int vc), (.int 3), (.int 1)]) (rest := []) (lenOf pd_10 rfl) rfl (by show 2 * 0 + _ ≤ _; exact Nat.le_of_eq rfl) (hb hby d16_246) (fun _ _ => ⟨rfl, e241, (by decide : 7 + 0 ≤ _), (by decide : 31 + 0 ≤ _)⟩)
        dsimp only [Pt.U, Pt.locs, Pt.cells, Pt.slots] at X245 l245 y245 z245 st245 hQ245
        rw [l245, y245, z245] at X245
        have c246 := (c222.keep K221)
        have c247 := (c223.keep K221)
        have c248 := (c224.keep K221)
        have c249 := (c225.keep K221)
        have c250 := (c226.keep K221)
        obtain ⟨hv245, N245q, K245, im245_0, im245_1, im245_2⟩ := hQ245
        rw [hv245] at st245
        have N245 := Fr.app N241 N245q
        have Z245 : n0 ≤ T245.heap.size := Nat.le_trans Z221 K245.1
        have KK245 : Keep h0 T245.heap [a] := (KK221).trans K245 (allS (Or.inr sz_b3) (allS (Or.inr sz_b7) (allS (Or.inr sz_b17) (allS (Or.inr sz_b29) (allS (Or.inr sz_b42) all0)))))
        obtain ⟨f245_0, f245_1, f245_2, f245_3, f245_4⟩ := im245_2 ho_va_vc ho_vb_vc
        refine Ds (B := T245.setTop (mkF m 249 #[lR a, lR su, lJ 5, lS, lI 5, lI 4, lR b76, lR b89, lI 3, lI 0, lI 1, lI 2, lI 2, lI 0, lI vc, lI 3] [])) (fun _ k => st245.trans k) ?_
        have c251 := (c243.keep K245 (ninS ne_a_b3 (ninS ne_a_b7 (ninS ne_a_b17 (ninS ne_a_b29 (ninS ne_a_b42 nin0))))))
        have c252 := (c238.keep K245 (ninS ne_a_b3 (ninS ne_a_b7 (ninS ne_a_b17 (ninS ne_a_b29 (ninS ne_a_b42 nin0))))))
        have c253 := (c244.keep K245 (ninS ne_a_b3 (ninS ne_a_b7 (ninS ne_a_b17 (ninS ne_a_b29 (ninS ne_a_b42 nin0))))))
        have c254 := (c239.keep K245 (ninS ne_a_b3 (ninS ne_a_b7 (ninS ne_a_b17 (ninS ne_a_b29 (ninS ne_a_b42 nin0))))))
        have c255 := (c240.keep K245 (ninS ne_a_b3 (ninS ne_a_b7 (ninS ne_a_b17 (ninS ne_a_b29 (ninS ne_a_b42 nin0))))))
        have c256 := (((Fld.other W155 (Fld.other W153 ((Fld.other W120 (Fld.other W113 (Fld.other W105 (Fld.ext E89 (Fld.ext E76 (Fld.other W70 (Fld.other W66 (Fld.other W62 (Fld.other W58 (Fld.other W55 (Fld.ext E42 (Fld.other W41 (Fld.ext E29 (Fld.other W28 (Fld.ext E17 (Fld.other W16 (Fld.ext E7 (Fld.other W6 (Fld.ext E3 F_size) (Or.inr (slot_ne (Or.inr (hw _ mm155)) (Or.inr (hw _ mm121)) (by decide) (t := .int) (t' := (.array .int)) (by decide) (by decide))))) (Or.inr (slot_ne (Or.inr (hw _ mm155)) (Or.inr (hw _ mm123)) (by decide) (t := .int) (t' := (.array .int)) (by decide) (by decide))))) (Or.inr (slot_ne (Or.inr (hw _ mm155)) (Or.inr (hw _ mm125)) (by decide) (t := .int) (t' := (.array .int)) (by decide) (by decide))))) (Or.inr (slot_ne (Or.inr (hw _ mm155)) (Or.inr (hw _ mm127)) (by decide) (t := .int) (t' := (.array .int)) (by decide) (by decide))))) (Or.inr (slot_ne (Or.inr (hw _ mm155)) (Or.inr (hw _ mm129)) (by decide) (t := .int) (t' := (.array .int)) (by decide) (by decide)))) (Or.inl ne_a_b3)) (Or.inl ne_a_b7)) (Or.inl ne_a_b29)) (Or.inl ne_a_b42)))) (Or.inl ne_a_b76)) (Or.inl ne_a_b76)) (Or.inl ne_a_b76)).keep K142 (ninS ne_a_b3 (ninS ne_a_b7 (ninS ne_a_b17 (ninS ne_a_b29 (ninS ne_a_b42 nin0)))))) (Or.inl ne_a_b76)) (Or.inl ne_a_b89)).keep K221 (ninS ne_a_b3 (ninS ne_a_b7 (ninS ne_a_b17 (ninS ne_a_b29 (ninS ne_a_b42 nin0)))))).keep K245 (ninS ne_a_b3 (ninS ne_a_b7 (ninS ne_a_b17 (ninS ne_a_b29 (ninS ne_a_b42 nin0))))))
        have c257 := (c242.keep K245)
        have c258 := (c231.keep K245)
        have c259 := (c227.keep K245 (ninS ne_su_b3 (ninS ne_su_b7 (ninS ne_su_b17 (ninS ne_su_b29 (ninS ne_su_b42 nin0))))))
        have c260 := (c228.keep K245 (ninS ne_u_b3 (ninS ne_u_b7 (ninS ne_u_b17 (ninS ne_u_b29 (ninS ne_u_b42 nin0))))))
        have c261 := ((((c150.other W153 ne_cc0_b76).other W155 ne_cc0_b89).keep K221 (ninS ne_cc0_b3 (ninS ne_cc0_b7 (ninS ne_cc0_b17 (ninS ne_cc0_b29 (ninS ne_cc0_b42 nin0)))))).keep K245 (ninS ne_cc0_b3 (ninS ne_cc0_b7 (ninS ne_cc0_b17 (ninS ne_cc0_b29 (ninS ne_cc0_b42 nin0))))))
        have c262 := (c229.keep K245 (ninS ne_cc1_b3 (ninS ne_cc1_b7 (ninS ne_cc1_b17 (ninS ne_cc1_b29 (ninS ne_cc1_b42 nin0))))))
        have c263 := (c236.keep K245 (ninS ne_cc2_b3 (ninS ne_cc2_b7 (ninS ne_cc2_b17 (ninS ne_cc2_b29 (ninS ne_cc2_b42 nin0))))))
        have c264 := (c246.keep K245)
        have c265 := (c247.keep K245)
        have c266 := (c248.keep K245)
        have c267 := (c249.keep K245)
        have c268 := (c250.keep K245)
        have c269 := (c233.keep K245 (ninS (Ne.symm ne_b3_b76) (ninS (Ne.symm ne_b7_b76) (ninS (Ne.symm ne_b17_b76) (ninS (Ne.symm ne_b29_b76) (ninS (Ne.symm ne_b42_b76) nin0))))))
        have c270 := (((Exa.wr W155 (Exa.wr W153 ((Exa.wr W120 (Exa.wr W113 (Exa.wr W105 (Exa.ext E89 Ex76)))).keep K142))).keep K221).keep K245)
        have c271 := (c235.keep K245 (ninS (Ne.symm ne_b3_b89) (ninS (Ne.symm ne_b7_b89) (ninS (Ne.symm ne_b17_b89) (ninS (Ne.symm ne_b29_b89) (ninS (Ne.symm ne_b42_b89) nin0))))))
        have c272 := (((Exa.wr W155 (Exa.wr W153 ((Exa.wr W120 (Exa.wr W113 (Exa.wr W105 Ex89))).keep K142))).keep K221).keep K245)
        exact jJ3 vb vc (1 : Int32) (2 : Int32) (3 : Int32) (-1 : Int32) [((1 : Int32), va), ((2 : Int32), vb), ((3 : Int32), vc)] (3 : Int32) T245 T245.heap _ X245 rfl N245 Z245 KK245 c251 c252 c253 c254 c255 c256 c257 c258 c259 c260 c261 c262 c263 c264 c265 c266 c267 c268 c269 c270 c271 c272 f245_0 f245_1 f245_2 f245_3 f245_4  ⟨⟨rfl, ⟨by decide, by decide⟩, rfl, _, rfl, ⟨rfl, ⟨by decide, by decide⟩, rfl, _, rfl, ⟨rfl, ⟨by decide, by decide⟩, rfl, _, rfl, rfl⟩⟩⟩, Nat.le_of_ble_eq_true rfl, (own_abc ho_va_vb ho_vb_vc).1, rfl, (own_abc ho_va_vb ho_vb_vc).2, rfl, ⟨rfl, ⟨by decide, by decide⟩, rfl, _, rfl, rfl⟩, rfl, Or.inr ⟨rfl, Or.inr ⟨rfl, rfl⟩⟩⟩
      · have ho_vb_vc := hk
        clear hk
        have c273 := (c209.keep K221 (ninS ne_a_b3 (ninS ne_a_b7 (ninS ne_a_b17 (ninS ne_a_b29 (ninS ne_a_b42 nin0))))))
        have c274 := (c210.keep K221 (ninS ne_a_b3 (ninS ne_a_b7 (ninS ne_a_b17 (ninS ne_a_b29 (ninS ne_a_b42 nin0))))))
        have c275 := (c211.keep K221 (ninS ne_a_b3 (ninS ne_a_b7 (ninS ne_a_b17 (ninS ne_a_b29 (ninS ne_a_b42 nin0))))))
        have c277 := (c216.keep K221)
        obtain ⟨cq276, kq276, q276a, q276b, q276c⟩ := isOf hZ e237 c277
        obtain ⟨_, _, ⟨T276, L276, k276, n276⟩, -, X276, ⟨Lc276, hQ276, l276, y276, z276⟩, st276⟩ := X237.virtualBack hx (y := (⟨"com/example/percurso/percurso/suite/PrefixTree", "child", "(II)I"⟩ : MethodName)) (z := (⟨"com/example/percurso/percurso/suite/PrefixTree", "child", "(II)I"⟩ : MethodName)) hown (mvT hZ (hw _ mm145)) (mvT hZ (hw _ mm146)) (notFace_of_selects (args := #[]) (mvT hZ (hw _ mm148))) (mvT hZ (hw _ mm148)) (mvT hZ (hw _ mm147)) (by decide) (backOf (W := 0) (rmCH_2 l Z a0 hw [] a (0 : Int32) vc b7 k7 [(.int (-1)), (.int va), (.int vb), (.int 0), (.int 0)] b29 k29 [(.int 1), (.int (-1)), (.int (-1)), (.int 0), (.int 0)] b42 k42 [(.int (-1)), (.int 2), (.int (-1)), (.int 0), (.int 0)] (1 : Int32) (2 : Int32) va vb T221.heap n0 Z221 c273 c274 c275 f221_1 f221_3 f221_4 ⟨by decide, by decide⟩ rfl ⟨by decide, by decide⟩ rfl rfl ⟨by decide, by decide⟩ rfl rfl) hZ (hw _ mm149) (hw _ mm60) (by decide) (by decide)) q276a q276c (g := (mkF m 217 #[lR a, lR su, lJ 5, lS, lI 5, lI 3, lR b76, lR b89, lI 3, lI 0, lI 1, lI 2, lI 2, lI 0, lI vc, lI 2] [(.int vc), (.int 0), (.ref a)])) rfl (by rw [hml]; rfl) (Steps.refl _) (argsL := [(.int 0), (.int vc)]) (rest := []) (lenOf pd_1 rfl) rfl (by show 2 * 0 + _ ≤ _; exact Nat.le_of_eq rfl) (hb hby d16_217) (fun _ _ => ⟨rfl, e237, (by decide : 7 + 0 ≤ _), (by decide : 31 + 0 ≤ _)⟩)
        dsimp only [Pt.U, Pt.locs, Pt.cells, Pt.slots] at X276 l276 y276 z276 st276 hQ276
        rw [l276, y276, z276] at X276
        obtain ⟨hv276, N276q, e276⟩ := hQ276
        rw [show own_find [((1 : Int32), va), ((2 : Int32), vb)] vc = (2 : Int32) from (own_find_lt ho_va_vc (own_find_eq ho_vb_vc))] at hv276
        rw [hv276] at st276
        have N276 := Fr.app N237 N276q
        refine Ds (B := T276.setTop (mkF m 220 #[lR a, lR su, lJ 5, lS, lI 5, lI 3, lR b76, lR b89, lI 3, lI 0, lI 1, lI 2, lI 2, lI 0, lI vc, lI 2] [(.int 2)])) (fun _ k => st276.trans k) ?_
        refine Ds (B := T276.setTop (mkF m 249 #[lR a, lR su, lJ 5, lS, lI 5, lI 3, lR b76, lR b89, lI 3, lI 0, lI 1, lI 2, lI 2, lI 0, lI vc, lI 2] [])) (fun _ k => XS.istore X276.here hx rfl (hb hby d16_220) rfl (l' := #[lR a, lR su, lJ 5, lS, lI 5, lI 3, lR b76, lR b89, lI 3, lI 0, lI 1, lI 2, lI 2, lI 0, lI vc, lI 2]) rfl (XS.iload X276.here hx rfl (hb hby d16_222) rfl (XS.iconst X276.here hx rfl (hb hby d16_224) (XS.icmpYes X276.here hx rfl (pc0 := 225) (pc' := 249) rfl (hb hby d16_225) rfl (feq (by decide : ¬ ((2 : Int32) = (-1 : Int32)))).2 (by decide) (by decide) k)))) ?_
        have c278 := (c217.keep K221 (ninS ne_a_b3 (ninS ne_a_b7 (ninS ne_a_b17 (ninS ne_a_b29 (ninS ne_a_b42 nin0))))))
        have c279 := (c218.keep K221 (ninS ne_a_b3 (ninS ne_a_b7 (ninS ne_a_b17 (ninS ne_a_b29 (ninS ne_a_b42 nin0))))))
        have c280 := ((Fld.other W155 (Fld.other W153 ((Fld.other W120 (Fld.other W113 (Fld.other W105 (Fld.ext E89 (Fld.ext E76 (Fld.other W70 (Fld.other W66 (Fld.other W62 (Fld.other W58 (Fld.other W55 (Fld.ext E42 (Fld.other W41 (Fld.ext E29 (Fld.other W28 (Fld.ext E17 (Fld.other W16 (Fld.ext E7 (Fld.other W6 (Fld.ext E3 F_size) (Or.inr (slot_ne (Or.inr (hw _ mm155)) (Or.inr (hw _ mm121)) (by decide) (t := .int) (t' := (.array .int)) (by decide) (by decide))))) (Or.inr (slot_ne (Or.inr (hw _ mm155)) (Or.inr (hw _ mm123)) (by decide) (t := .int) (t' := (.array .int)) (by decide) (by decide))))) (Or.inr (slot_ne (Or.inr (hw _ mm155)) (Or.inr (hw _ mm125)) (by decide) (t := .int) (t' := (.array .int)) (by decide) (by decide))))) (Or.inr (slot_ne (Or.inr (hw _ mm155)) (Or.inr (hw _ mm127)) (by decide) (t := .int) (t' := (.array .int)) (by decide) (by decide))))) (Or.inr (slot_ne (Or.inr (hw _ mm155)) (Or.inr (hw _ mm129)) (by decide) (t := .int) (t' := (.array .int)) (by decide) (by decide)))) (Or.inl ne_a_b3)) (Or.inl ne_a_b7)) (Or.inl ne_a_b29)) (Or.inl ne_a_b42)))) (Or.inl ne_a_b76)) (Or.inl ne_a_b76)) (Or.inl ne_a_b76)).keep K142 (ninS ne_a_b3 (ninS ne_a_b7 (ninS ne_a_b17 (ninS ne_a_b29 (ninS ne_a_b42 nin0)))))) (Or.inl ne_a_b76)) (Or.inl ne_a_b89)).keep K221 (ninS ne_a_b3 (ninS ne_a_b7 (ninS ne_a_b17 (ninS ne_a_b29 (ninS ne_a_b42 nin0))))))
        have c281 := (((c150.other W153 ne_cc0_b76).other W155 ne_cc0_b89).keep K221 (ninS ne_cc0_b3 (ninS ne_cc0_b7 (ninS ne_cc0_b17 (ninS ne_cc0_b29 (ninS ne_cc0_b42 nin0))))))
        have c282 := (c222.keep K221)
        have c283 := (c223.keep K221)
        have c284 := (c224.keep K221)
        have c285 := (c225.keep K221)
        have c286 := (c226.keep K221)
        have c287 := ((Exa.wr W155 (Exa.wr W153 ((Exa.wr W120 (Exa.wr W113 (Exa.wr W105 (Exa.ext E89 Ex76)))).keep K142))).keep K221)
        have c288 := ((Exa.wr W155 (Exa.wr W153 ((Exa.wr W120 (Exa.wr W113 (Exa.wr W105 Ex89))).keep K142))).keep K221)
        exact jJ2 vb (1 : Int32) (2 : Int32) (-1 : Int32) [((1 : Int32), va), ((2 : Int32), vb)] (2 : Int32) T276 T221.heap _ X276 e276 N276 Z221 KK221 c278 c273 c279 c274 c275 c280 c277 c231 c227 c228 c281 c229 c236 c282 c283 c284 c285 c286 c233 c287 c235 c288 f221_0 f221_1 f221_2 f221_3 f221_4  ⟨⟨rfl, ⟨by decide, by decide⟩, rfl, _, rfl, ⟨rfl, ⟨by decide, by decide⟩, rfl, _, rfl, rfl⟩⟩, Nat.le_of_ble_eq_true rfl, (own_p2 ho_va_vb (Or.inr (Eq.symm ho_vb_vc))).1, rfl, (own_p2 ho_va_vb (Or.inr (Eq.symm ho_vb_vc))).2, rfl, ⟨rfl, ⟨by decide, by decide⟩, rfl, _, rfl, rfl⟩, rfl, Or.inr ⟨rfl, Or.inl rfl⟩⟩
      · have ho_vb_vc := hk
        clear hk
        have c289 := (c209.keep K221 (ninS ne_a_b3 (ninS ne_a_b7 (ninS ne_a_b17 (ninS ne_a_b29 (ninS ne_a_b42 nin0))))))
        have c290 := (c210.keep K221 (ninS ne_a_b3 (ninS ne_a_b7 (ninS ne_a_b17 (ninS ne_a_b29 (ninS ne_a_b42 nin0))))))
        have c291 := (c211.keep K221 (ninS ne_a_b3 (ninS ne_a_b7 (ninS ne_a_b17 (ninS ne_a_b29 (ninS ne_a_b42 nin0))))))
        have c293 := (c216.keep K221)
        obtain ⟨cq292, kq292, q292a, q292b, q292c⟩ := isOf hZ e237 c293
        obtain ⟨_, _, ⟨T292, L292, k292, n292⟩, -, X292, ⟨Lc292, hQ292, l292, y292, z292⟩, st292⟩ := X237.virtualBack hx (y := (⟨"com/example/percurso/percurso/suite/PrefixTree", "child", "(II)I"⟩ : MethodName)) (z := (⟨"com/example/percurso/percurso/suite/PrefixTree", "child", "(II)I"⟩ : MethodName)) hown (mvT hZ (hw _ mm145)) (mvT hZ (hw _ mm146)) (notFace_of_selects (args := #[]) (mvT hZ (hw _ mm148))) (mvT hZ (hw _ mm148)) (mvT hZ (hw _ mm147)) (by decide) (backOf (W := 0) (rmCH_2 l Z a0 hw [] a (0 : Int32) vc b7 k7 [(.int (-1)), (.int va), (.int vb), (.int 0), (.int 0)] b29 k29 [(.int 1), (.int (-1)), (.int (-1)), (.int 0), (.int 0)] b42 k42 [(.int (-1)), (.int 2), (.int (-1)), (.int 0), (.int 0)] (1 : Int32) (2 : Int32) va vb T221.heap n0 Z221 c289 c290 c291 f221_1 f221_3 f221_4 ⟨by decide, by decide⟩ rfl ⟨by decide, by decide⟩ rfl rfl ⟨by decide, by decide⟩ rfl rfl) hZ (hw _ mm149) (hw _ mm60) (by decide) (by decide)) q292a q292c (g := (mkF m 217 #[lR a, lR su, lJ 5, lS, lI 5, lI 3, lR b76, lR b89, lI 3, lI 0, lI 1, lI 2, lI 2, lI 0, lI vc, lI 2] [(.int vc), (.int 0), (.ref a)])) rfl (by rw [hml]; rfl) (Steps.refl _) (argsL := [(.int 0), (.int vc)]) (rest := []) (lenOf pd_1 rfl) rfl (by show 2 * 0 + _ ≤ _; exact Nat.le_of_eq rfl) (hb hby d16_217) (fun _ _ => ⟨rfl, e237, (by decide : 7 + 0 ≤ _), (by decide : 31 + 0 ≤ _)⟩)
        dsimp only [Pt.U, Pt.locs, Pt.cells, Pt.slots] at X292 l292 y292 z292 st292 hQ292
        rw [l292, y292, z292] at X292
        obtain ⟨hv292, N292q, e292⟩ := hQ292
        rw [show own_find [((1 : Int32), va), ((2 : Int32), vb)] vc = (-1 : Int32) from (own_find_lt ho_va_vc (own_find_gt ho_vb_vc))] at hv292
        rw [hv292] at st292
        have N292 := Fr.app N237 N292q
        refine Ds (B := T292.setTop (mkF m 220 #[lR a, lR su, lJ 5, lS, lI 5, lI 3, lR b76, lR b89, lI 3, lI 0, lI 1, lI 2, lI 2, lI 0, lI vc, lI 2] [(.int (-1))])) (fun _ k => st292.trans k) ?_
        refine Ds (B := T292.setTop (mkF m 233 #[lR a, lR su, lJ 5, lS, lI 5, lI 4, lR b76, lR b89, lI 3, lI 0, lI 1, lI 2, lI 2, lI 0, lI vc, lI (-1)] [(.int 3)])) (fun _ k => XS.istore X292.here hx rfl (hb hby d16_220) rfl (l' := #[lR a, lR su, lJ 5, lS, lI 5, lI 3, lR b76, lR b89, lI 3, lI 0, lI 1, lI 2, lI 2, lI 0, lI vc, lI (-1)]) rfl (XS.iload X292.here hx rfl (hb hby d16_222) rfl (XS.iconst X292.here hx rfl (hb hby d16_224) (XS.icmpNo X292.here hx rfl (hb hby d16_225) rfl (teq (rfl : (-1 : Int32) = (-1 : Int32))).2 (XS.iload X292.here hx rfl (hb hby d16_228) rfl (XS.iinc X292.here hx rfl (hb hby d16_230) rfl (l' := #[lR a, lR su, lJ 5, lS, lI 5, lI 4, lR b76, lR b89, lI 3, lI 0, lI 1, lI 2, lI 2, lI 0, lI vc, lI (-1)]) rfl k)))))) ?_
        refine Ds (B := T292.setTop (mkF m 244 #[lR a, lR su, lJ 5, lS, lI 5, lI 4, lR b76, lR b89, lI 3, lI 0, lI 1, lI 2, lI 2, lI 0, lI vc, lI 3] [(.int 0), (.int 3), (.int vc), (.int 0), (.ref a)])) (fun _ k => XS.istore X292.here hx rfl (hb hby d16_233) rfl (l' := #[lR a, lR su, lJ 5, lS, lI 5, lI 4, lR b76, lR b89, lI 3, lI 0, lI 1, lI 2, lI 2, lI 0, lI vc, lI 3]) rfl (XS.aloadN X292.here hx rfl (hb hby d16_235) rfl rfl (XS.iload X292.here hx rfl (hb hby d16_236) rfl (XS.iload X292.here hx rfl (hb hby d16_238) rfl (XS.iload X292.here hx rfl (hb hby d16_240) rfl (XS.iload X292.here hx rfl (hb hby d16_242) rfl k)))))) ?_
        refine Ds (B := T292.setTop (mkF m 246 #[lR a, lR su, lJ 5, lS, lI 5, lI 4, lR b76, lR b89, lI 3, lI 0, lI 1, lI 2, lI 2, lI 0, lI vc, lI 3] [(.int 1), (.int 3), (.int vc), (.int 0), (.ref a)])) (fun _ k => XS.iconst X292.here hx rfl (hb hby d16_244) (XS.iadd X292.here hx rfl (hb hby d16_245) rfl k)) ?_
        have c294 := (c217.keep K221 (ninS ne_a_b3 (ninS ne_a_b7 (ninS ne_a_b17 (ninS ne_a_b29 (ninS ne_a_b42 nin0))))))
        have c295 := (c218.keep K221 (ninS ne_a_b3 (ninS ne_a_b7 (ninS ne_a_b17 (ninS ne_a_b29 (ninS ne_a_b42 nin0))))))
        obtain ⟨cq296, q296, q296'⟩ := c293.cell
        obtain ⟨_, _, ⟨T296, L296, k296, n296⟩, -, X296, ⟨Lc296, hQ296, l296, y296, z296⟩, st296⟩ := X292.privateBack hx (y := (⟨"com/example/percurso/percurso/suite/PrefixTree", "link", "(IIII)V"⟩ : MethodName)) hown (mvT hZ (hw _ mm150)) (mvT hZ (hw _ mm151)) (mvT hZ (own_selp (y := (⟨"com/example/percurso/percurso/suite/PrefixTree", "link", "(IIII)V"⟩ : MethodName)) (hw _ mm59) (hw _ mm152) (hw _ mm151) (by decide))) (Cond.privateMethod_at (mvP hZ (hw _ mm152) (args := #[]))) (mvT hZ (hw _ mm153)) (by decide) (backOf (W := 0) (rmLK_4 l Z a0 hw [] a vc b3 k3 b7 k7 b17 k17 b29 k29 b42 k42 (-1 : Int32) (0 : Int32) (0 : Int32) (0 : Int32) (0 : Int32) (-1 : Int32) va vb (0 : Int32) (0 : Int32) (0 : Int32) (1 : Int32) (1 : Int32) (0 : Int32) (0 : Int32) (-1 : Int32) (-1 : Int32) (0 : Int32) (0 : Int32) (-1 : Int32) (0 : Int32) (0 : Int32) T221.heap n0 Z221 c294 c289 c295 c290 c291 f221_0 f221_1 f221_2 f221_3 f221_4 ge_b3 ge_b7 ge_b17 ge_b29 ge_b42 ne_b3_b7 ne_b3_b17 ne_b3_b29 ne_b3_b42 ne_b7_b17 ne_b7_b29 ne_b7_b42 ne_b17_b29 ne_b17_b42 ne_b29_b42 ne_a_b3 ne_a_b7 ne_a_b17 ne_a_b29 ne_a_b42) hZ (hw _ mm153) (hw _ mm60) (by decide) (by decide)) (g := (mkF m 246 #[lR a, lR su, lJ 5, lS, lI 5, lI 4, lR b76, lR b89, lI 3, lI 0, lI 1, lI 2, lI 2, lI 0, lI vc, lI 3] [(.int 1), (.int 3), (.int vc), (.int 0), (.ref a)])) rfl (by rw [hml]; rfl) (Steps.refl _) (a := a) (by rw [e292]; exact q296) q296' (argsL := [(.int 0), (.int vc), (.int 3), (.int 1)]) (rest := []) (lenOf pd_10 rfl) rfl (by show 2 * 0 + _ ≤ _; exact Nat.le_of_eq rfl) (hb hby d16_246) (fun _ _ => ⟨rfl, e292, (by decide : 7 + 0 ≤ _), (by decide : 31 + 0 ≤ _)⟩)
        dsimp only [Pt.U, Pt.locs, Pt.cells, Pt.slots] at X296 l296 y296 z296 st296 hQ296
        rw [l296, y296, z296] at X296
        have c297 := (c222.keep K221)
        have c298 := (c223.keep K221)
        have c299 := (c224.keep K221)
        have c300 := (c225.keep K221)
        have c301 := (c226.keep K221)
        obtain ⟨hv296, N296q, K296, im296_0, im296_1, im296_2⟩ := hQ296
        rw [hv296] at st296
        have N296 := Fr.app N292 N296q
        have Z296 : n0 ≤ T296.heap.size := Nat.le_trans Z221 K296.1
        have KK296 : Keep h0 T296.heap [a] := (KK221).trans K296 (allS (Or.inr sz_b3) (allS (Or.inr sz_b7) (allS (Or.inr sz_b17) (allS (Or.inr sz_b29) (allS (Or.inr sz_b42) all0)))))
        obtain ⟨f296_0, f296_1, f296_2, f296_3, f296_4⟩ := im296_1 ho_va_vc (own_nlt ho_vb_vc)
        refine Ds (B := T296.setTop (mkF m 249 #[lR a, lR su, lJ 5, lS, lI 5, lI 4, lR b76, lR b89, lI 3, lI 0, lI 1, lI 2, lI 2, lI 0, lI vc, lI 3] [])) (fun _ k => st296.trans k) ?_
        have c302 := (c294.keep K296 (ninS ne_a_b3 (ninS ne_a_b7 (ninS ne_a_b17 (ninS ne_a_b29 (ninS ne_a_b42 nin0))))))
        have c303 := (c289.keep K296 (ninS ne_a_b3 (ninS ne_a_b7 (ninS ne_a_b17 (ninS ne_a_b29 (ninS ne_a_b42 nin0))))))
        have c304 := (c295.keep K296 (ninS ne_a_b3 (ninS ne_a_b7 (ninS ne_a_b17 (ninS ne_a_b29 (ninS ne_a_b42 nin0))))))
        have c305 := (c290.keep K296 (ninS ne_a_b3 (ninS ne_a_b7 (ninS ne_a_b17 (ninS ne_a_b29 (ninS ne_a_b42 nin0))))))
        have c306 := (c291.keep K296 (ninS ne_a_b3 (ninS ne_a_b7 (ninS ne_a_b17 (ninS ne_a_b29 (ninS ne_a_b42 nin0))))))
        have c307 := (((Fld.other W155 (Fld.other W153 ((Fld.other W120 (Fld.other W113 (Fld.other W105 (Fld.ext E89 (Fld.ext E76 (Fld.other W70 (Fld.other W66 (Fld.other W62 (Fld.other W58 (Fld.other W55 (Fld.ext E42 (Fld.other W41 (Fld.ext E29 (Fld.other W28 (Fld.ext E17 (Fld.other W16 (Fld.ext E7 (Fld.other W6 (Fld.ext E3 F_size) (Or.inr (slot_ne (Or.inr (hw _ mm155)) (Or.inr (hw _ mm121)) (by decide) (t := .int) (t' := (.array .int)) (by decide) (by decide))))) (Or.inr (slot_ne (Or.inr (hw _ mm155)) (Or.inr (hw _ mm123)) (by decide) (t := .int) (t' := (.array .int)) (by decide) (by decide))))) (Or.inr (slot_ne (Or.inr (hw _ mm155)) (Or.inr (hw _ mm125)) (by decide) (t := .int) (t' := (.array .int)) (by decide) (by decide))))) (Or.inr (slot_ne (Or.inr (hw _ mm155)) (Or.inr (hw _ mm127)) (by decide) (t := .int) (t' := (.array .int)) (by decide) (by decide))))) (Or.inr (slot_ne (Or.inr (hw _ mm155)) (Or.inr (hw _ mm129)) (by decide) (t := .int) (t' := (.array .int)) (by decide) (by decide)))) (Or.inl ne_a_b3)) (Or.inl ne_a_b7)) (Or.inl ne_a_b29)) (Or.inl ne_a_b42)))) (Or.inl ne_a_b76)) (Or.inl ne_a_b76)) (Or.inl ne_a_b76)).keep K142 (ninS ne_a_b3 (ninS ne_a_b7 (ninS ne_a_b17 (ninS ne_a_b29 (ninS ne_a_b42 nin0)))))) (Or.inl ne_a_b76)) (Or.inl ne_a_b89)).keep K221 (ninS ne_a_b3 (ninS ne_a_b7 (ninS ne_a_b17 (ninS ne_a_b29 (ninS ne_a_b42 nin0)))))).keep K296 (ninS ne_a_b3 (ninS ne_a_b7 (ninS ne_a_b17 (ninS ne_a_b29 (ninS ne_a_b42 nin0))))))
        have c308 := (c293.keep K296)
        have c309 := (c231.keep K296)
        have c310 := (c227.keep K296 (ninS ne_su_b3 (ninS ne_su_b7 (ninS ne_su_b17 (ninS ne_su_b29 (ninS ne_su_b42 nin0))))))
        have c311 := (c228.keep K296 (ninS ne_u_b3 (ninS ne_u_b7 (ninS ne_u_b17 (ninS ne_u_b29 (ninS ne_u_b42 nin0))))))
        have c312 := ((((c150.other W153 ne_cc0_b76).other W155 ne_cc0_b89).keep K221 (ninS ne_cc0_b3 (ninS ne_cc0_b7 (ninS ne_cc0_b17 (ninS ne_cc0_b29 (ninS ne_cc0_b42 nin0)))))).keep K296 (ninS ne_cc0_b3 (ninS ne_cc0_b7 (ninS ne_cc0_b17 (ninS ne_cc0_b29 (ninS ne_cc0_b42 nin0))))))
        have c313 := (c229.keep K296 (ninS ne_cc1_b3 (ninS ne_cc1_b7 (ninS ne_cc1_b17 (ninS ne_cc1_b29 (ninS ne_cc1_b42 nin0))))))
        have c314 := (c236.keep K296 (ninS ne_cc2_b3 (ninS ne_cc2_b7 (ninS ne_cc2_b17 (ninS ne_cc2_b29 (ninS ne_cc2_b42 nin0))))))
        have c315 := (c297.keep K296)
        have c316 := (c298.keep K296)
        have c317 := (c299.keep K296)
        have c318 := (c300.keep K296)
        have c319 := (c301.keep K296)
        have c320 := (c233.keep K296 (ninS (Ne.symm ne_b3_b76) (ninS (Ne.symm ne_b7_b76) (ninS (Ne.symm ne_b17_b76) (ninS (Ne.symm ne_b29_b76) (ninS (Ne.symm ne_b42_b76) nin0))))))
        have c321 := (((Exa.wr W155 (Exa.wr W153 ((Exa.wr W120 (Exa.wr W113 (Exa.wr W105 (Exa.ext E89 Ex76)))).keep K142))).keep K221).keep K296)
        have c322 := (c235.keep K296 (ninS (Ne.symm ne_b3_b89) (ninS (Ne.symm ne_b7_b89) (ninS (Ne.symm ne_b17_b89) (ninS (Ne.symm ne_b29_b89) (ninS (Ne.symm ne_b42_b89) nin0))))))
        have c323 := (((Exa.wr W155 (Exa.wr W153 ((Exa.wr W120 (Exa.wr W113 (Exa.wr W105 Ex89))).keep K142))).keep K221).keep K296)
        exact jJ3 vb vc (1 : Int32) (3 : Int32) (-1 : Int32) (2 : Int32) [((1 : Int32), va), ((3 : Int32), vc), ((2 : Int32), vb)] (3 : Int32) T296 T296.heap _ X296 rfl N296 Z296 KK296 c302 c303 c304 c305 c306 c307 c308 c309 c310 c311 c312 c313 c314 c315 c316 c317 c318 c319 c320 c321 c322 c323 f296_0 f296_1 f296_2 f296_3 f296_4  ⟨⟨rfl, ⟨by decide, by decide⟩, rfl, _, rfl, ⟨rfl, ⟨by decide, by decide⟩, rfl, _, rfl, ⟨rfl, ⟨by decide, by decide⟩, rfl, _, rfl, rfl⟩⟩⟩, Nat.le_of_ble_eq_true rfl, (own_acb ho_va_vc ho_vb_vc).1, rfl, (own_acb ho_va_vc ho_vb_vc).2, rfl, ⟨rfl, ⟨by decide, by decide⟩, rfl, _, rfl, rfl⟩, rfl, Or.inr ⟨rfl, Or.inr ⟨rfl, rfl⟩⟩⟩
    · have ho_va_vc := hk
      clear hk
      have c324 := (c209.keep K221 (ninS ne_a_b3 (ninS ne_a_b7 (ninS ne_a_b17 (ninS ne_a_b29 (ninS ne_a_b42 nin0))))))
      have c325 := (c210.keep K221 (ninS ne_a_b3 (ninS ne_a_b7 (ninS ne_a_b17 (ninS ne_a_b29 (ninS ne_a_b42 nin0))))))
      have c326 := (c211.keep K221 (ninS ne_a_b3 (ninS ne_a_b7 (ninS ne_a_b17 (ninS ne_a_b29 (ninS ne_a_b42 nin0))))))
      have c328 := (c216.keep K221)
      obtain ⟨cq327, kq327, q327a, q327b, q327c⟩ := isOf hZ e237 c328
      obtain ⟨_, _, ⟨T327, L327, k327, n327⟩, -, X327, ⟨Lc327, hQ327, l327, y327, z327⟩, st327⟩ := X237.virtualBack hx (y := (⟨"com/example/percurso/percurso/suite/PrefixTree", "child", "(II)I"⟩ : MethodName)) (z := (⟨"com/example/percurso/percurso/suite/PrefixTree", "child", "(II)I"⟩ : MethodName)) hown (mvT hZ (hw _ mm145)) (mvT hZ (hw _ mm146)) (notFace_of_selects (args := #[]) (mvT hZ (hw _ mm148))) (mvT hZ (hw _ mm148)) (mvT hZ (hw _ mm147)) (by decide) (backOf (W := 0) (rmCH_2 l Z a0 hw [] a (0 : Int32) vc b7 k7 [(.int (-1)), (.int va), (.int vb), (.int 0), (.int 0)] b29 k29 [(.int 1), (.int (-1)), (.int (-1)), (.int 0), (.int 0)] b42 k42 [(.int (-1)), (.int 2), (.int (-1)), (.int 0), (.int 0)] (1 : Int32) (2 : Int32) va vb T221.heap n0 Z221 c324 c325 c326 f221_1 f221_3 f221_4 ⟨by decide, by decide⟩ rfl ⟨by decide, by decide⟩ rfl rfl ⟨by decide, by decide⟩ rfl rfl) hZ (hw _ mm149) (hw _ mm60) (by decide) (by decide)) q327a q327c (g := (mkF m 217 #[lR a, lR su, lJ 5, lS, lI 5, lI 3, lR b76, lR b89, lI 3, lI 0, lI 1, lI 2, lI 2, lI 0, lI vc, lI 2] [(.int vc), (.int 0), (.ref a)])) rfl (by rw [hml]; rfl) (Steps.refl _) (argsL := [(.int 0), (.int vc)]) (rest := []) (lenOf pd_1 rfl) rfl (by show 2 * 0 + _ ≤ _; exact Nat.le_of_eq rfl) (hb hby d16_217) (fun _ _ => ⟨rfl, e237, (by decide : 7 + 0 ≤ _), (by decide : 31 + 0 ≤ _)⟩)
      dsimp only [Pt.U, Pt.locs, Pt.cells, Pt.slots] at X327 l327 y327 z327 st327 hQ327
      rw [l327, y327, z327] at X327
      obtain ⟨hv327, N327q, e327⟩ := hQ327
      rw [show own_find [((1 : Int32), va), ((2 : Int32), vb)] vc = (1 : Int32) from (own_find_eq ho_va_vc)] at hv327
      rw [hv327] at st327
      have N327 := Fr.app N237 N327q
      refine Ds (B := T327.setTop (mkF m 220 #[lR a, lR su, lJ 5, lS, lI 5, lI 3, lR b76, lR b89, lI 3, lI 0, lI 1, lI 2, lI 2, lI 0, lI vc, lI 2] [(.int 1)])) (fun _ k => st327.trans k) ?_
      refine Ds (B := T327.setTop (mkF m 249 #[lR a, lR su, lJ 5, lS, lI 5, lI 3, lR b76, lR b89, lI 3, lI 0, lI 1, lI 2, lI 2, lI 0, lI vc, lI 1] [])) (fun _ k => XS.istore X327.here hx rfl (hb hby d16_220) rfl (l' := #[lR a, lR su, lJ 5, lS, lI 5, lI 3, lR b76, lR b89, lI 3, lI 0, lI 1, lI 2, lI 2, lI 0, lI vc, lI 1]) rfl (XS.iload X327.here hx rfl (hb hby d16_222) rfl (XS.iconst X327.here hx rfl (hb hby d16_224) (XS.icmpYes X327.here hx rfl (pc0 := 225) (pc' := 249) rfl (hb hby d16_225) rfl (feq (by decide : ¬ ((1 : Int32) = (-1 : Int32)))).2 (by decide) (by decide) k)))) ?_
      have c329 := (c217.keep K221 (ninS ne_a_b3 (ninS ne_a_b7 (ninS ne_a_b17 (ninS ne_a_b29 (ninS ne_a_b42 nin0))))))
      have c330 := (c218.keep K221 (ninS ne_a_b3 (ninS ne_a_b7 (ninS ne_a_b17 (ninS ne_a_b29 (ninS ne_a_b42 nin0))))))
      have c331 := ((Fld.other W155 (Fld.other W153 ((Fld.other W120 (Fld.other W113 (Fld.other W105 (Fld.ext E89 (Fld.ext E76 (Fld.other W70 (Fld.other W66 (Fld.other W62 (Fld.other W58 (Fld.other W55 (Fld.ext E42 (Fld.other W41 (Fld.ext E29 (Fld.other W28 (Fld.ext E17 (Fld.other W16 (Fld.ext E7 (Fld.other W6 (Fld.ext E3 F_size) (Or.inr (slot_ne (Or.inr (hw _ mm155)) (Or.inr (hw _ mm121)) (by decide) (t := .int) (t' := (.array .int)) (by decide) (by decide))))) (Or.inr (slot_ne (Or.inr (hw _ mm155)) (Or.inr (hw _ mm123)) (by decide) (t := .int) (t' := (.array .int)) (by decide) (by decide))))) (Or.inr (slot_ne (Or.inr (hw _ mm155)) (Or.inr (hw _ mm125)) (by decide) (t := .int) (t' := (.array .int)) (by decide) (by decide))))) (Or.inr (slot_ne (Or.inr (hw _ mm155)) (Or.inr (hw _ mm127)) (by decide) (t := .int) (t' := (.array .int)) (by decide) (by decide))))) (Or.inr (slot_ne (Or.inr (hw _ mm155)) (Or.inr (hw _ mm129)) (by decide) (t := .int) (t' := (.array .int)) (by decide) (by decide)))) (Or.inl ne_a_b3)) (Or.inl ne_a_b7)) (Or.inl ne_a_b29)) (Or.inl ne_a_b42)))) (Or.inl ne_a_b76)) (Or.inl ne_a_b76)) (Or.inl ne_a_b76)).keep K142 (ninS ne_a_b3 (ninS ne_a_b7 (ninS ne_a_b17 (ninS ne_a_b29 (ninS ne_a_b42 nin0)))))) (Or.inl ne_a_b76)) (Or.inl ne_a_b89)).keep K221 (ninS ne_a_b3 (ninS ne_a_b7 (ninS ne_a_b17 (ninS ne_a_b29 (ninS ne_a_b42 nin0))))))
      have c332 := (((c150.other W153 ne_cc0_b76).other W155 ne_cc0_b89).keep K221 (ninS ne_cc0_b3 (ninS ne_cc0_b7 (ninS ne_cc0_b17 (ninS ne_cc0_b29 (ninS ne_cc0_b42 nin0))))))
      have c333 := (c222.keep K221)
      have c334 := (c223.keep K221)
      have c335 := (c224.keep K221)
      have c336 := (c225.keep K221)
      have c337 := (c226.keep K221)
      have c338 := ((Exa.wr W155 (Exa.wr W153 ((Exa.wr W120 (Exa.wr W113 (Exa.wr W105 (Exa.ext E89 Ex76)))).keep K142))).keep K221)
      have c339 := ((Exa.wr W155 (Exa.wr W153 ((Exa.wr W120 (Exa.wr W113 (Exa.wr W105 Ex89))).keep K142))).keep K221)
      exact jJ2 vb (1 : Int32) (2 : Int32) (-1 : Int32) [((1 : Int32), va), ((2 : Int32), vb)] (1 : Int32) T327 T221.heap _ X327 e327 N327 Z221 KK221 c329 c324 c330 c325 c326 c331 c328 c231 c227 c228 c332 c229 c236 c333 c334 c335 c336 c337 c233 c338 c235 c339 f221_0 f221_1 f221_2 f221_3 f221_4  ⟨⟨rfl, ⟨by decide, by decide⟩, rfl, _, rfl, ⟨rfl, ⟨by decide, by decide⟩, rfl, _, rfl, rfl⟩⟩, Nat.le_of_ble_eq_true rfl, (own_p2 ho_va_vb (Or.inl (Eq.symm ho_va_vc))).1, rfl, (own_p2 ho_va_vb (Or.inl (Eq.symm ho_va_vc))).2, rfl, ⟨rfl, ⟨by decide, by decide⟩, rfl, _, rfl, rfl⟩, rfl, Or.inr ⟨rfl, Or.inl rfl⟩⟩
    · have ho_va_vc := hk
      clear hk
      have c340 := (c209.keep K221 (ninS ne_a_b3 (ninS ne_a_b7 (ninS ne_a_b17 (ninS ne_a_b29 (ninS ne_a_b42 nin0))))))
      have c341 := (c210.keep K221 (ninS ne_a_b3 (ninS ne_a_b7 (ninS ne_a_b17 (ninS ne_a_b29 (ninS ne_a_b42 nin0))))))
      have c342 := (c211.keep K221 (ninS ne_a_b3 (ninS ne_a_b7 (ninS ne_a_b17 (ninS ne_a_b29 (ninS ne_a_b42 nin0))))))
      have c344 := (c216.keep K221)
      obtain ⟨cq343, kq343, q343a, q343b, q343c⟩ := isOf hZ e237 c344
      obtain ⟨_, _, ⟨T343, L343, k343, n343⟩, -, X343, ⟨Lc343, hQ343, l343, y343, z343⟩, st343⟩ := X237.virtualBack hx (y := (⟨"com/example/percurso/percurso/suite/PrefixTree", "child", "(II)I"⟩ : MethodName)) (z := (⟨"com/example/percurso/percurso/suite/PrefixTree", "child", "(II)I"⟩ : MethodName)) hown (mvT hZ (hw _ mm145)) (mvT hZ (hw _ mm146)) (notFace_of_selects (args := #[]) (mvT hZ (hw _ mm148))) (mvT hZ (hw _ mm148)) (mvT hZ (hw _ mm147)) (by decide) (backOf (W := 0) (rmCH_2 l Z a0 hw [] a (0 : Int32) vc b7 k7 [(.int (-1)), (.int va), (.int vb), (.int 0), (.int 0)] b29 k29 [(.int 1), (.int (-1)), (.int (-1)), (.int 0), (.int 0)] b42 k42 [(.int (-1)), (.int 2), (.int (-1)), (.int 0), (.int 0)] (1 : Int32) (2 : Int32) va vb T221.heap n0 Z221 c340 c341 c342 f221_1 f221_3 f221_4 ⟨by decide, by decide⟩ rfl ⟨by decide, by decide⟩ rfl rfl ⟨by decide, by decide⟩ rfl rfl) hZ (hw _ mm149) (hw _ mm60) (by decide) (by decide)) q343a q343c (g := (mkF m 217 #[lR a, lR su, lJ 5, lS, lI 5, lI 3, lR b76, lR b89, lI 3, lI 0, lI 1, lI 2, lI 2, lI 0, lI vc, lI 2] [(.int vc), (.int 0), (.ref a)])) rfl (by rw [hml]; rfl) (Steps.refl _) (argsL := [(.int 0), (.int vc)]) (rest := []) (lenOf pd_1 rfl) rfl (by show 2 * 0 + _ ≤ _; exact Nat.le_of_eq rfl) (hb hby d16_217) (fun _ _ => ⟨rfl, e237, (by decide : 7 + 0 ≤ _), (by decide : 31 + 0 ≤ _)⟩)
      dsimp only [Pt.U, Pt.locs, Pt.cells, Pt.slots] at X343 l343 y343 z343 st343 hQ343
      rw [l343, y343, z343] at X343
      obtain ⟨hv343, N343q, e343⟩ := hQ343
      rw [show own_find [((1 : Int32), va), ((2 : Int32), vb)] vc = (-1 : Int32) from (own_find_gt ho_va_vc)] at hv343
      rw [hv343] at st343
      have N343 := Fr.app N237 N343q
      refine Ds (B := T343.setTop (mkF m 220 #[lR a, lR su, lJ 5, lS, lI 5, lI 3, lR b76, lR b89, lI 3, lI 0, lI 1, lI 2, lI 2, lI 0, lI vc, lI 2] [(.int (-1))])) (fun _ k => st343.trans k) ?_
      refine Ds (B := T343.setTop (mkF m 233 #[lR a, lR su, lJ 5, lS, lI 5, lI 4, lR b76, lR b89, lI 3, lI 0, lI 1, lI 2, lI 2, lI 0, lI vc, lI (-1)] [(.int 3)])) (fun _ k => XS.istore X343.here hx rfl (hb hby d16_220) rfl (l' := #[lR a, lR su, lJ 5, lS, lI 5, lI 3, lR b76, lR b89, lI 3, lI 0, lI 1, lI 2, lI 2, lI 0, lI vc, lI (-1)]) rfl (XS.iload X343.here hx rfl (hb hby d16_222) rfl (XS.iconst X343.here hx rfl (hb hby d16_224) (XS.icmpNo X343.here hx rfl (hb hby d16_225) rfl (teq (rfl : (-1 : Int32) = (-1 : Int32))).2 (XS.iload X343.here hx rfl (hb hby d16_228) rfl (XS.iinc X343.here hx rfl (hb hby d16_230) rfl (l' := #[lR a, lR su, lJ 5, lS, lI 5, lI 4, lR b76, lR b89, lI 3, lI 0, lI 1, lI 2, lI 2, lI 0, lI vc, lI (-1)]) rfl k)))))) ?_
      refine Ds (B := T343.setTop (mkF m 244 #[lR a, lR su, lJ 5, lS, lI 5, lI 4, lR b76, lR b89, lI 3, lI 0, lI 1, lI 2, lI 2, lI 0, lI vc, lI 3] [(.int 0), (.int 3), (.int vc), (.int 0), (.ref a)])) (fun _ k => XS.istore X343.here hx rfl (hb hby d16_233) rfl (l' := #[lR a, lR su, lJ 5, lS, lI 5, lI 4, lR b76, lR b89, lI 3, lI 0, lI 1, lI 2, lI 2, lI 0, lI vc, lI 3]) rfl (XS.aloadN X343.here hx rfl (hb hby d16_235) rfl rfl (XS.iload X343.here hx rfl (hb hby d16_236) rfl (XS.iload X343.here hx rfl (hb hby d16_238) rfl (XS.iload X343.here hx rfl (hb hby d16_240) rfl (XS.iload X343.here hx rfl (hb hby d16_242) rfl k)))))) ?_
      refine Ds (B := T343.setTop (mkF m 246 #[lR a, lR su, lJ 5, lS, lI 5, lI 4, lR b76, lR b89, lI 3, lI 0, lI 1, lI 2, lI 2, lI 0, lI vc, lI 3] [(.int 1), (.int 3), (.int vc), (.int 0), (.ref a)])) (fun _ k => XS.iconst X343.here hx rfl (hb hby d16_244) (XS.iadd X343.here hx rfl (hb hby d16_245) rfl k)) ?_
      have c345 := (c217.keep K221 (ninS ne_a_b3 (ninS ne_a_b7 (ninS ne_a_b17 (ninS ne_a_b29 (ninS ne_a_b42 nin0))))))
      have c346 := (c218.keep K221 (ninS ne_a_b3 (ninS ne_a_b7 (ninS ne_a_b17 (ninS ne_a_b29 (ninS ne_a_b42 nin0))))))
      obtain ⟨cq347, q347, q347'⟩ := c344.cell
      obtain ⟨_, _, ⟨T347, L347, k347, n347⟩, -, X347, ⟨Lc347, hQ347, l347, y347, z347⟩, st347⟩ := X343.privateBack hx (y := (⟨"com/example/percurso/percurso/suite/PrefixTree", "link", "(IIII)V"⟩ : MethodName)) hown (mvT hZ (hw _ mm150)) (mvT hZ (hw _ mm151)) (mvT hZ (own_selp (y := (⟨"com/example/percurso/percurso/suite/PrefixTree", "link", "(IIII)V"⟩ : MethodName)) (hw _ mm59) (hw _ mm152) (hw _ mm151) (by decide))) (Cond.privateMethod_at (mvP hZ (hw _ mm152) (args := #[]))) (mvT hZ (hw _ mm153)) (by decide) (backOf (W := 0) (rmLK_4 l Z a0 hw [] a vc b3 k3 b7 k7 b17 k17 b29 k29 b42 k42 (-1 : Int32) (0 : Int32) (0 : Int32) (0 : Int32) (0 : Int32) (-1 : Int32) va vb (0 : Int32) (0 : Int32) (0 : Int32) (1 : Int32) (1 : Int32) (0 : Int32) (0 : Int32) (-1 : Int32) (-1 : Int32) (0 : Int32) (0 : Int32) (-1 : Int32) (0 : Int32) (0 : Int32) T221.heap n0 Z221 c345 c340 c346 c341 c342 f221_0 f221_1 f221_2 f221_3 f221_4 ge_b3 ge_b7 ge_b17 ge_b29 ge_b42 ne_b3_b7 ne_b3_b17 ne_b3_b29 ne_b3_b42 ne_b7_b17 ne_b7_b29 ne_b7_b42 ne_b17_b29 ne_b17_b42 ne_b29_b42 ne_a_b3 ne_a_b7 ne_a_b17 ne_a_b29 ne_a_b42) hZ (hw _ mm153) (hw _ mm60) (by decide) (by decide)) (g := (mkF m 246 #[lR a, lR su, lJ 5, lS, lI 5, lI 4, lR b76, lR b89, lI 3, lI 0, lI 1, lI 2, lI 2, lI 0, lI vc, lI 3] [(.int 1), (.int 3), (.int vc), (.int 0), (.ref a)])) rfl (by rw [hml]; rfl) (Steps.refl _) (a := a) (by rw [e343]; exact q347) q347' (argsL := [(.int 0), (.int vc), (.int 3), (.int 1)]) (rest := []) (lenOf pd_10 rfl) rfl (by show 2 * 0 + _ ≤ _; exact Nat.le_of_eq rfl) (hb hby d16_246) (fun _ _ => ⟨rfl, e343, (by decide : 7 + 0 ≤ _), (by decide : 31 + 0 ≤ _)⟩)
      dsimp only [Pt.U, Pt.locs, Pt.cells, Pt.slots] at X347 l347 y347 z347 st347 hQ347
      rw [l347, y347, z347] at X347
      have c348 := (c222.keep K221)
      have c349 := (c223.keep K221)
      have c350 := (c224.keep K221)
      have c351 := (c225.keep K221)
      have c352 := (c226.keep K221)
      obtain ⟨hv347, N347q, K347, im347_0, im347_1, im347_2⟩ := hQ347
      rw [hv347] at st347
      have N347 := Fr.app N343 N347q
      have Z347 : n0 ≤ T347.heap.size := Nat.le_trans Z221 K347.1
      have KK347 : Keep h0 T347.heap [a] := (KK221).trans K347 (allS (Or.inr sz_b3) (allS (Or.inr sz_b7) (allS (Or.inr sz_b17) (allS (Or.inr sz_b29) (allS (Or.inr sz_b42) all0)))))
      obtain ⟨f347_0, f347_1, f347_2, f347_3, f347_4⟩ := im347_0 (own_nlt ho_va_vc)
      refine Ds (B := T347.setTop (mkF m 249 #[lR a, lR su, lJ 5, lS, lI 5, lI 4, lR b76, lR b89, lI 3, lI 0, lI 1, lI 2, lI 2, lI 0, lI vc, lI 3] [])) (fun _ k => st347.trans k) ?_
      have c353 := (c345.keep K347 (ninS ne_a_b3 (ninS ne_a_b7 (ninS ne_a_b17 (ninS ne_a_b29 (ninS ne_a_b42 nin0))))))
      have c354 := (c340.keep K347 (ninS ne_a_b3 (ninS ne_a_b7 (ninS ne_a_b17 (ninS ne_a_b29 (ninS ne_a_b42 nin0))))))
      have c355 := (c346.keep K347 (ninS ne_a_b3 (ninS ne_a_b7 (ninS ne_a_b17 (ninS ne_a_b29 (ninS ne_a_b42 nin0))))))
      have c356 := (c341.keep K347 (ninS ne_a_b3 (ninS ne_a_b7 (ninS ne_a_b17 (ninS ne_a_b29 (ninS ne_a_b42 nin0))))))
      have c357 := (c342.keep K347 (ninS ne_a_b3 (ninS ne_a_b7 (ninS ne_a_b17 (ninS ne_a_b29 (ninS ne_a_b42 nin0))))))
      have c358 := (((Fld.other W155 (Fld.other W153 ((Fld.other W120 (Fld.other W113 (Fld.other W105 (Fld.ext E89 (Fld.ext E76 (Fld.other W70 (Fld.other W66 (Fld.other W62 (Fld.other W58 (Fld.other W55 (Fld.ext E42 (Fld.other W41 (Fld.ext E29 (Fld.other W28 (Fld.ext E17 (Fld.other W16 (Fld.ext E7 (Fld.other W6 (Fld.ext E3 F_size) (Or.inr (slot_ne (Or.inr (hw _ mm155)) (Or.inr (hw _ mm121)) (by decide) (t := .int) (t' := (.array .int)) (by decide) (by decide))))) (Or.inr (slot_ne (Or.inr (hw _ mm155)) (Or.inr (hw _ mm123)) (by decide) (t := .int) (t' := (.array .int)) (by decide) (by decide))))) (Or.inr (slot_ne (Or.inr (hw _ mm155)) (Or.inr (hw _ mm125)) (by decide) (t := .int) (t' := (.array .int)) (by decide) (by decide))))) (Or.inr (slot_ne (Or.inr (hw _ mm155)) (Or.inr (hw _ mm127)) (by decide) (t := .int) (t' := (.array .int)) (by decide) (by decide))))) (Or.inr (slot_ne (Or.inr (hw _ mm155)) (Or.inr (hw _ mm129)) (by decide) (t := .int) (t' := (.array .int)) (by decide) (by decide)))) (Or.inl ne_a_b3)) (Or.inl ne_a_b7)) (Or.inl ne_a_b29)) (Or.inl ne_a_b42)))) (Or.inl ne_a_b76)) (Or.inl ne_a_b76)) (Or.inl ne_a_b76)).keep K142 (ninS ne_a_b3 (ninS ne_a_b7 (ninS ne_a_b17 (ninS ne_a_b29 (ninS ne_a_b42 nin0)))))) (Or.inl ne_a_b76)) (Or.inl ne_a_b89)).keep K221 (ninS ne_a_b3 (ninS ne_a_b7 (ninS ne_a_b17 (ninS ne_a_b29 (ninS ne_a_b42 nin0)))))).keep K347 (ninS ne_a_b3 (ninS ne_a_b7 (ninS ne_a_b17 (ninS ne_a_b29 (ninS ne_a_b42 nin0))))))
      have c359 := (c344.keep K347)
      have c360 := (c231.keep K347)
      have c361 := (c227.keep K347 (ninS ne_su_b3 (ninS ne_su_b7 (ninS ne_su_b17 (ninS ne_su_b29 (ninS ne_su_b42 nin0))))))
      have c362 := (c228.keep K347 (ninS ne_u_b3 (ninS ne_u_b7 (ninS ne_u_b17 (ninS ne_u_b29 (ninS ne_u_b42 nin0))))))
      have c363 := ((((c150.other W153 ne_cc0_b76).other W155 ne_cc0_b89).keep K221 (ninS ne_cc0_b3 (ninS ne_cc0_b7 (ninS ne_cc0_b17 (ninS ne_cc0_b29 (ninS ne_cc0_b42 nin0)))))).keep K347 (ninS ne_cc0_b3 (ninS ne_cc0_b7 (ninS ne_cc0_b17 (ninS ne_cc0_b29 (ninS ne_cc0_b42 nin0))))))
      have c364 := (c229.keep K347 (ninS ne_cc1_b3 (ninS ne_cc1_b7 (ninS ne_cc1_b17 (ninS ne_cc1_b29 (ninS ne_cc1_b42 nin0))))))
      have c365 := (c236.keep K347 (ninS ne_cc2_b3 (ninS ne_cc2_b7 (ninS ne_cc2_b17 (ninS ne_cc2_b29 (ninS ne_cc2_b42 nin0))))))
      have c366 := (c348.keep K347)
      have c367 := (c349.keep K347)
      have c368 := (c350.keep K347)
      have c369 := (c351.keep K347)
      have c370 := (c352.keep K347)
      have c371 := (c233.keep K347 (ninS (Ne.symm ne_b3_b76) (ninS (Ne.symm ne_b7_b76) (ninS (Ne.symm ne_b17_b76) (ninS (Ne.symm ne_b29_b76) (ninS (Ne.symm ne_b42_b76) nin0))))))
      have c372 := (((Exa.wr W155 (Exa.wr W153 ((Exa.wr W120 (Exa.wr W113 (Exa.wr W105 (Exa.ext E89 Ex76)))).keep K142))).keep K221).keep K347)
      have c373 := (c235.keep K347 (ninS (Ne.symm ne_b3_b89) (ninS (Ne.symm ne_b7_b89) (ninS (Ne.symm ne_b17_b89) (ninS (Ne.symm ne_b29_b89) (ninS (Ne.symm ne_b42_b89) nin0))))))
      have c374 := (((Exa.wr W155 (Exa.wr W153 ((Exa.wr W120 (Exa.wr W113 (Exa.wr W105 Ex89))).keep K142))).keep K221).keep K347)
      exact jJ3 vb vc (3 : Int32) (2 : Int32) (-1 : Int32) (1 : Int32) [((3 : Int32), vc), ((1 : Int32), va), ((2 : Int32), vb)] (3 : Int32) T347 T347.heap _ X347 rfl N347 Z347 KK347 c353 c354 c355 c356 c357 c358 c359 c360 c361 c362 c363 c364 c365 c366 c367 c368 c369 c370 c371 c372 c373 c374 f347_0 f347_1 f347_2 f347_3 f347_4  ⟨⟨rfl, ⟨by decide, by decide⟩, rfl, _, rfl, ⟨rfl, ⟨by decide, by decide⟩, rfl, _, rfl, ⟨rfl, ⟨by decide, by decide⟩, rfl, _, rfl, rfl⟩⟩⟩, Nat.le_of_ble_eq_true rfl, (own_cab ho_va_vc ho_va_vb).1, rfl, (own_cab ho_va_vc ho_va_vb).2, rfl, ⟨rfl, ⟨by decide, by decide⟩, rfl, _, rfl, rfl⟩, rfl, Or.inr ⟨rfl, Or.inr ⟨rfl, rfl⟩⟩⟩
  · have ho_va_vb := hk
    clear hk
    have c375 := (Fld.other W155 (Fld.other W153 (c130.keep K142 (ninS ne_a_b3 (ninS ne_a_b7 (ninS ne_a_b17 (ninS ne_a_b29 (ninS ne_a_b42 nin0)))))) (Or.inl ne_a_b76)) (Or.inl ne_a_b89))
    have c376 := (Fld.other W155 (Fld.other W153 (c131.keep K142 (ninS ne_a_b3 (ninS ne_a_b7 (ninS ne_a_b17 (ninS ne_a_b29 (ninS ne_a_b42 nin0)))))) (Or.inl ne_a_b76)) (Or.inl ne_a_b89))
    have c377 := (Fld.other W155 (Fld.other W153 (c132.keep K142 (ninS ne_a_b3 (ninS ne_a_b7 (ninS ne_a_b17 (ninS ne_a_b29 (ninS ne_a_b42 nin0)))))) (Or.inl ne_a_b76)) (Or.inl ne_a_b89))
    have c378 := ((f142_1.other W153 ne_b7_b76).other W155 ne_b7_b89)
    have c379 := ((f142_3.other W153 ne_b29_b76).other W155 ne_b29_b89)
    have c380 := ((f142_4.other W153 ne_b42_b76).other W155 ne_b42_b89)
    have c382 := (Exa.wr W155 (Exa.wr W153 (c137.keep K142)))
    obtain ⟨cq381, kq381, q381a, q381b, q381c⟩ := isOf hZ e163 c382
    obtain ⟨_, _, ⟨T381, L381, k381, n381⟩, -, X381, ⟨Lc381, hQ381, l381, y381, z381⟩, st381⟩ := X163.virtualBack hx (y := (⟨"com/example/percurso/percurso/suite/PrefixTree", "child", "(II)I"⟩ : MethodName)) (z := (⟨"com/example/percurso/percurso/suite/PrefixTree", "child", "(II)I"⟩ : MethodName)) hown (mvT hZ (hw _ mm145)) (mvT hZ (hw _ mm146)) (notFace_of_selects (args := #[]) (mvT hZ (hw _ mm148))) (mvT hZ (hw _ mm148)) (mvT hZ (hw _ mm147)) (by decide) (backOf (W := 0) (rmCH_1 l Z a0 hw [] a (0 : Int32) vb b7 k7 [(.int (-1)), (.int va), (.int 0), (.int 0), (.int 0)] b29 k29 [(.int 1), (.int (-1)), (.int 0), (.int 0), (.int 0)] b42 k42 [(.int (-1)), (.int (-1)), (.int 0), (.int 0), (.int 0)] (1 : Int32) va h155 n0 Z155 c375 c376 c377 c378 c379 c380 ⟨by decide, by decide⟩ rfl ⟨by decide, by decide⟩ rfl rfl) hZ (hw _ mm149) (hw _ mm60) (by decide) (by decide)) q381a q381c (g := (mkF m 217 #[lR a, lR su, lJ 5, lS, lI 5, lI 2, lR b76, lR b89, lI 3, lI 0, lI 1, lI 1, lI 1, lI 0, lI vb, lI 1] [(.int vb), (.int 0), (.ref a)])) rfl (by rw [hml]; rfl) (Steps.refl _) (argsL := [(.int 0), (.int vb)]) (rest := []) (lenOf pd_1 rfl) rfl (by show 2 * 0 + _ ≤ _; exact Nat.le_of_eq rfl) (hb hby d16_217) (fun _ _ => ⟨rfl, e163, (by decide : 7 + 0 ≤ _), (by decide : 31 + 0 ≤ _)⟩)
    dsimp only [Pt.U, Pt.locs, Pt.cells, Pt.slots] at X381 l381 y381 z381 st381 hQ381
    rw [l381, y381, z381] at X381
    obtain ⟨hv381, N381q, e381⟩ := hQ381
    rw [show own_find [((1 : Int32), va)] vb = (1 : Int32) from (own_find_eq ho_va_vb)] at hv381
    rw [hv381] at st381
    have N381 := Fr.app N163 N381q
    refine Ds (B := T381.setTop (mkF m 220 #[lR a, lR su, lJ 5, lS, lI 5, lI 2, lR b76, lR b89, lI 3, lI 0, lI 1, lI 1, lI 1, lI 0, lI vb, lI 1] [(.int 1)])) (fun _ k => st381.trans k) ?_
    refine Ds (B := T381.setTop (mkF m 252 #[lR a, lR su, lJ 5, lS, lI 5, lI 2, lR b76, lR b89, lI 3, lI 0, lI 1, lI 1, lI 1, lI 0, lI vb, lI 1] [(.int 1), (.ref su)])) (fun _ k => XS.istore X381.here hx rfl (hb hby d16_220) rfl (l' := #[lR a, lR su, lJ 5, lS, lI 5, lI 2, lR b76, lR b89, lI 3, lI 0, lI 1, lI 1, lI 1, lI 0, lI vb, lI 1]) rfl (XS.iload X381.here hx rfl (hb hby d16_222) rfl (XS.iconst X381.here hx rfl (hb hby d16_224) (XS.icmpYes X381.here hx rfl (pc0 := 225) (pc' := 249) rfl (hb hby d16_225) rfl (feq (by decide : ¬ ((1 : Int32) = (-1 : Int32)))).2 (by decide) (by decide) (XS.aloadN X381.here hx rfl (hb hby d16_249) rfl rfl (XS.iload X381.here hx rfl (hb hby d16_250) rfl k)))))) ?_
    obtain ⟨cq383, kq383, q383a, q383b, q383c⟩ := isOf hZ e381 c164
    obtain ⟨_, _, ⟨T383, L383, k383, n383⟩, -, X383, ⟨Lc383, hQ383, l383, y383, z383⟩, st383⟩ := X381.virtualBack hx (y := (⟨"com/example/percurso/percurso/suite/Suite", "length", "(I)I"⟩ : MethodName)) (z := (⟨"com/example/percurso/percurso/suite/Suite", "length", "(I)I"⟩ : MethodName)) hown (mvT hZ (hw _ mm135)) (mvT hZ (hw _ mm136)) (notFace_of_selects (args := #[]) (mvT hZ (hw _ mm138))) (mvT hZ (hw _ mm138)) (mvT hZ (hw _ mm137)) (by decide) (backOf (W := 0) (rm19 l Z a0 hw [] su (1 : Int32) u ku [(.ref cc0), (.ref cc1), (.ref cc2)] cc1 kel1 (1 : Int32) [(.int vb)] h155 n0 Z155 c160 c161 ⟨by decide, by decide⟩ rfl c162) hZ (hw _ mm139) (hw _ mm63) (by decide) (by decide)) q383a q383c (g := (mkF m 252 #[lR a, lR su, lJ 5, lS, lI 5, lI 2, lR b76, lR b89, lI 3, lI 0, lI 1, lI 1, lI 1, lI 0, lI vb, lI 1] [(.int 1), (.ref su)])) rfl (by rw [hml]; rfl) (Steps.refl _) (argsL := [(.int 1)]) (rest := []) (lenOf pd_9 rfl) rfl (by show 2 * 0 + _ ≤ _; exact Nat.le_of_eq rfl) (hb hby d16_252) (fun _ _ => ⟨rfl, e381, (by decide : 7 + 0 ≤ _), (by decide : 31 + 0 ≤ _)⟩)
    dsimp only [Pt.U, Pt.locs, Pt.cells, Pt.slots] at X383 l383 y383 z383 st383 hQ383
    rw [l383, y383, z383] at X383
    obtain ⟨hv383, N383q, e383⟩ := hQ383
    rw [hv383] at st383
    have N383 := Fr.app N381 N383q
    refine Ds (B := T383.setTop (mkF m 255 #[lR a, lR su, lJ 5, lS, lI 5, lI 2, lR b76, lR b89, lI 3, lI 0, lI 1, lI 1, lI 1, lI 0, lI vb, lI 1] [(.int 1)])) (fun _ k => st383.trans k) ?_
    refine Ds (B := T383.setTop (mkF m 181 #[lR a, lR su, lJ 5, lS, lI 5, lI 2, lR b76, lR b89, lI 3, lI 0, lI 1, lI 2, lI 1, lI 0, lI vb, lI 1] [])) (fun _ k => XS.iload X383.here hx rfl (hb hby d16_255) rfl (XS.iconst X383.here hx rfl (hb hby d16_257) (XS.iadd X383.here hx rfl (hb hby d16_258) rfl (XS.icmpYes X383.here hx rfl (pc0 := 259) (pc' := 279) rfl (hb hby d16_259) rfl (flt (by decide : ¬ ((1 : Int32) < (1 : Int32)))).2.2.2 (by decide) (by decide) (XS.iinc X383.here hx rfl (hb hby d16_279) rfl (l' := #[lR a, lR su, lJ 5, lS, lI 5, lI 2, lR b76, lR b89, lI 3, lI 0, lI 1, lI 2, lI 1, lI 0, lI vb, lI 1]) rfl (XS.goto X383.here hx rfl (pc0 := 282) (pc' := 181) rfl (hb hby d16_282) (by decide) (by decide) k)))))) ?_
    refine Ds (B := T383.setTop (mkF m 192 #[lR a, lR su, lJ 5, lS, lI 5, lI 2, lR b76, lR b89, lI 3, lI 0, lI 1, lI 2, lI 1, lI 0, lI vb, lI 1] [(.int 2), (.ref b76)])) (fun _ k => XS.iload X383.here hx rfl (hb hby d16_181) rfl (XS.iload X383.here hx rfl (hb hby d16_183) rfl (XS.icmpNo X383.here hx rfl (hb hby d16_185) rfl (tlt (by decide : (2 : Int32) < (3 : Int32))).2.1 (XS.aload X383.here hx rfl (hb hby d16_188) rfl rfl (XS.iload X383.here hx rfl (hb hby d16_190) rfl k))))) ?_
    obtain ⟨cl384, Ar384, q384, S384, M384, H384, G384⟩ := id c158
    have hin384 : ¬ ((2 : Int32) < 0 ∨ cl384.slots.size ≤ ((2 : Int32)).toNatClampNeg) := inb_of S384 ⟨by decide, by decide⟩
    have hat384 : cl384.slots[((2 : Int32)).toNatClampNeg]? = some (.int 2) := Has.at H384 hin384 rfl
    refine Ds (B := T383.setTop (mkF m 193 #[lR a, lR su, lJ 5, lS, lI 5, lI 2, lR b76, lR b89, lI 3, lI 0, lI 1, lI 2, lI 1, lI 0, lI vb, lI 1] [(.int 2)])) (fun _ k => X383.iaload hx (j := (2 : Int32)) (v := (.int 2)) (by rw [e383]; exact Ar384.1) (State.isArrayOf_alike hZ.alike Ar384.2.1) Ar384.2.2 hin384 hat384 (g := (mkF m 192 #[lR a, lR su, lJ 5, lS, lI 5, lI 2, lR b76, lR b89, lI 3, lI 0, lI 1, lI 2, lI 1, lI 0, lI vb, lI 1] [(.int 2), (.ref b76)])) rfl rfl (hb hby d16_192) _ k) ?_
    refine Ds (B := T383.setTop (mkF m 199 #[lR a, lR su, lJ 5, lS, lI 5, lI 2, lR b76, lR b89, lI 3, lI 0, lI 1, lI 2, lI 2, lI 0, lI vb, lI 1] [(.int 2), (.ref b89)])) (fun _ k => XS.istore X383.here hx rfl (hb hby d16_193) rfl (l' := #[lR a, lR su, lJ 5, lS, lI 5, lI 2, lR b76, lR b89, lI 3, lI 0, lI 1, lI 2, lI 2, lI 0, lI vb, lI 1]) rfl (XS.aload X383.here hx rfl (hb hby d16_195) rfl rfl (XS.iload X383.here hx rfl (hb hby d16_197) rfl k))) ?_
    obtain ⟨cl385, Ar385, q385, S385, M385, H385, G385⟩ := id V155
    have hin385 : ¬ ((2 : Int32) < 0 ∨ cl385.slots.size ≤ ((2 : Int32)).toNatClampNeg) := inb_of S385 ⟨by decide, by decide⟩
    have hat385 : cl385.slots[((2 : Int32)).toNatClampNeg]? = some (.int 0) := Has.at H385 hin385 rfl
    refine Ds (B := T383.setTop (mkF m 200 #[lR a, lR su, lJ 5, lS, lI 5, lI 2, lR b76, lR b89, lI 3, lI 0, lI 1, lI 2, lI 2, lI 0, lI vb, lI 1] [(.int 0)])) (fun _ k => X383.iaload hx (j := (2 : Int32)) (v := (.int 0)) (by rw [e383]; exact Ar385.1) (State.isArrayOf_alike hZ.alike Ar385.2.1) Ar385.2.2 hin385 hat385 (g := (mkF m 199 #[lR a, lR su, lJ 5, lS, lI 5, lI 2, lR b76, lR b89, lI 3, lI 0, lI 1, lI 2, lI 2, lI 0, lI vb, lI 1] [(.int 2), (.ref b89)])) rfl rfl (hb hby d16_199) _ k) ?_
    refine Ds (B := T383.setTop (mkF m 207 #[lR a, lR su, lJ 5, lS, lI 5, lI 2, lR b76, lR b89, lI 3, lI 0, lI 1, lI 2, lI 2, lI 0, lI vb, lI 1] [(.int 0), (.int 2), (.ref su)])) (fun _ k => XS.istore X383.here hx rfl (hb hby d16_200) rfl (l' := #[lR a, lR su, lJ 5, lS, lI 5, lI 2, lR b76, lR b89, lI 3, lI 0, lI 1, lI 2, lI 2, lI 0, lI vb, lI 1]) rfl (XS.aloadN X383.here hx rfl (hb hby d16_202) rfl rfl (XS.iload X383.here hx rfl (hb hby d16_203) rfl (XS.iload X383.here hx rfl (hb hby d16_205) rfl k)))) ?_
    have c386 := ((((c118.other W120 ne_cc2_b76).keep K142 (ninS ne_cc2_b3 (ninS ne_cc2_b7 (ninS ne_cc2_b17 (ninS ne_cc2_b29 (ninS ne_cc2_b42 nin0)))))).other W153 ne_cc2_b76).other W155 ne_cc2_b89)
    obtain ⟨cq387, kq387, q387a, q387b, q387c⟩ := isOf hZ e383 c164
    obtain ⟨_, _, ⟨T387, L387, k387, n387⟩, -, X387, ⟨Lc387, hQ387, l387, y387, z387⟩, st387⟩ := X383.virtualBack hx (y := (⟨"com/example/percurso/percurso/suite/Suite", "input", "(II)I"⟩ : MethodName)) (z := (⟨"com/example/percurso/percurso/suite/Suite", "input", "(II)I"⟩ : MethodName)) hown (mvT hZ (hw _ mm140)) (mvT hZ (hw _ mm141)) (notFace_of_selects (args := #[]) (mvT hZ (hw _ mm143))) (mvT hZ (hw _ mm143)) (mvT hZ (hw _ mm142)) (by decide) (backOf (W := 0) (rm20 l Z a0 hw [] su (2 : Int32) (0 : Int32) u ku [(.ref cc0), (.ref cc1), (.ref cc2)] cc2 kel2 (1 : Int32) [(.int vc)] vc h155 n0 Z155 c160 c161 ⟨by decide, by decide⟩ rfl c386 ⟨by decide, by decide⟩ rfl) hZ (hw _ mm144) (hw _ mm63) (by decide) (by decide)) q387a q387c (g := (mkF m 207 #[lR a, lR su, lJ 5, lS, lI 5, lI 2, lR b76, lR b89, lI 3, lI 0, lI 1, lI 2, lI 2, lI 0, lI vb, lI 1] [(.int 0), (.int 2), (.ref su)])) rfl (by rw [hml]; rfl) (Steps.refl _) (argsL := [(.int 2), (.int 0)]) (rest := []) (lenOf pd_1 rfl) rfl (by show 2 * 0 + _ ≤ _; exact Nat.le_of_eq rfl) (hb hby d16_207) (fun _ _ => ⟨rfl, e383, (by decide : 7 + 0 ≤ _), (by decide : 31 + 0 ≤ _)⟩)
    dsimp only [Pt.U, Pt.locs, Pt.cells, Pt.slots] at X387 l387 y387 z387 st387 hQ387
    rw [l387, y387, z387] at X387
    obtain ⟨hv387, N387q, e387⟩ := hQ387
    rw [hv387] at st387
    have N387 := Fr.app N383 N387q
    refine Ds (B := T387.setTop (mkF m 210 #[lR a, lR su, lJ 5, lS, lI 5, lI 2, lR b76, lR b89, lI 3, lI 0, lI 1, lI 2, lI 2, lI 0, lI vb, lI 1] [(.int vc)])) (fun _ k => st387.trans k) ?_
    refine Ds (B := T387.setTop (mkF m 217 #[lR a, lR su, lJ 5, lS, lI 5, lI 2, lR b76, lR b89, lI 3, lI 0, lI 1, lI 2, lI 2, lI 0, lI vc, lI 1] [(.int vc), (.int 0), (.ref a)])) (fun _ k => XS.istore X387.here hx rfl (hb hby d16_210) rfl (l' := #[lR a, lR su, lJ 5, lS, lI 5, lI 2, lR b76, lR b89, lI 3, lI 0, lI 1, lI 2, lI 2, lI 0, lI vc, lI 1]) rfl (XS.aloadN X387.here hx rfl (hb hby d16_212) rfl rfl (XS.iload X387.here hx rfl (hb hby d16_213) rfl (XS.iload X387.here hx rfl (hb hby d16_215) rfl k)))) ?_
    rcases own_tri va vc with hk | hk | hk
    · have ho_va_vc := hk
      clear hk
      obtain ⟨cq388, kq388, q388a, q388b, q388c⟩ := isOf hZ e387 c382
      obtain ⟨_, _, ⟨T388, L388, k388, n388⟩, -, X388, ⟨Lc388, hQ388, l388, y388, z388⟩, st388⟩ := X387.virtualBack hx (y := (⟨"com/example/percurso/percurso/suite/PrefixTree", "child", "(II)I"⟩ : MethodName)) (z := (⟨"com/example/percurso/percurso/suite/PrefixTree", "child", "(II)I"⟩ : MethodName)) hown (mvT hZ (hw _ mm145)) (mvT hZ (hw _ mm146)) (notFace_of_selects (args := #[]) (mvT hZ (hw _ mm148))) (mvT hZ (hw _ mm148)) (mvT hZ (hw _ mm147)) (by decide) (backOf (W := 0) (rmCH_1 l Z a0 hw [] a (0 : Int32) vc b7 k7 [(.int (-1)), (.int va), (.int 0), (.int 0), (.int 0)] b29 k29 [(.int 1), (.int (-1)), (.int 0), (.int 0), (.int 0)] b42 k42 [(.int (-1)), (.int (-1)), (.int 0), (.int 0), (.int 0)] (1 : Int32) va h155 n0 Z155 c375 c376 c377 c378 c379 c380 ⟨by decide, by decide⟩ rfl ⟨by decide, by decide⟩ rfl rfl) hZ (hw _ mm149) (hw _ mm60) (by decide) (by decide)) q388a q388c (g := (mkF m 217 #[lR a, lR su, lJ 5, lS, lI 5, lI 2, lR b76, lR b89, lI 3, lI 0, lI 1, lI 2, lI 2, lI 0, lI vc, lI 1] [(.int vc), (.int 0), (.ref a)])) rfl (by rw [hml]; rfl) (Steps.refl _) (argsL := [(.int 0), (.int vc)]) (rest := []) (lenOf pd_1 rfl) rfl (by show 2 * 0 + _ ≤ _; exact Nat.le_of_eq rfl) (hb hby d16_217) (fun _ _ => ⟨rfl, e387, (by decide : 7 + 0 ≤ _), (by decide : 31 + 0 ≤ _)⟩)
      dsimp only [Pt.U, Pt.locs, Pt.cells, Pt.slots] at X388 l388 y388 z388 st388 hQ388
      rw [l388, y388, z388] at X388
      obtain ⟨hv388, N388q, e388⟩ := hQ388
      rw [show own_find [((1 : Int32), va)] vc = (-1 : Int32) from (own_find_lt ho_va_vc rfl)] at hv388
      rw [hv388] at st388
      have N388 := Fr.app N387 N388q
      refine Ds (B := T388.setTop (mkF m 220 #[lR a, lR su, lJ 5, lS, lI 5, lI 2, lR b76, lR b89, lI 3, lI 0, lI 1, lI 2, lI 2, lI 0, lI vc, lI 1] [(.int (-1))])) (fun _ k => st388.trans k) ?_
      refine Ds (B := T388.setTop (mkF m 233 #[lR a, lR su, lJ 5, lS, lI 5, lI 3, lR b76, lR b89, lI 3, lI 0, lI 1, lI 2, lI 2, lI 0, lI vc, lI (-1)] [(.int 2)])) (fun _ k => XS.istore X388.here hx rfl (hb hby d16_220) rfl (l' := #[lR a, lR su, lJ 5, lS, lI 5, lI 2, lR b76, lR b89, lI 3, lI 0, lI 1, lI 2, lI 2, lI 0, lI vc, lI (-1)]) rfl (XS.iload X388.here hx rfl (hb hby d16_222) rfl (XS.iconst X388.here hx rfl (hb hby d16_224) (XS.icmpNo X388.here hx rfl (hb hby d16_225) rfl (teq (rfl : (-1 : Int32) = (-1 : Int32))).2 (XS.iload X388.here hx rfl (hb hby d16_228) rfl (XS.iinc X388.here hx rfl (hb hby d16_230) rfl (l' := #[lR a, lR su, lJ 5, lS, lI 5, lI 3, lR b76, lR b89, lI 3, lI 0, lI 1, lI 2, lI 2, lI 0, lI vc, lI (-1)]) rfl k)))))) ?_
      refine Ds (B := T388.setTop (mkF m 244 #[lR a, lR su, lJ 5, lS, lI 5, lI 3, lR b76, lR b89, lI 3, lI 0, lI 1, lI 2, lI 2, lI 0, lI vc, lI 2] [(.int 0), (.int 2), (.int vc), (.int 0), (.ref a)])) (fun _ k => XS.istore X388.here hx rfl (hb hby d16_233) rfl (l' := #[lR a, lR su, lJ 5, lS, lI 5, lI 3, lR b76, lR b89, lI 3, lI 0, lI 1, lI 2, lI 2, lI 0, lI vc, lI 2]) rfl (XS.aloadN X388.here hx rfl (hb hby d16_235) rfl rfl (XS.iload X388.here hx rfl (hb hby d16_236) rfl (XS.iload X388.here hx rfl (hb hby d16_238) rfl (XS.iload X388.here hx rfl (hb hby d16_240) rfl (XS.iload X388.here hx rfl (hb hby d16_242) rfl k)))))) ?_
      refine Ds (B := T388.setTop (mkF m 246 #[lR a, lR su, lJ 5, lS, lI 5, lI 3, lR b76, lR b89, lI 3, lI 0, lI 1, lI 2, lI 2, lI 0, lI vc, lI 2] [(.int 1), (.int 2), (.int vc), (.int 0), (.ref a)])) (fun _ k => XS.iconst X388.here hx rfl (hb hby d16_244) (XS.iadd X388.here hx rfl (hb hby d16_245) rfl k)) ?_
      have c389 := (Fld.other W155 (Fld.other W153 (c138.keep K142 (ninS ne_a_b3 (ninS ne_a_b7 (ninS ne_a_b17 (ninS ne_a_b29 (ninS ne_a_b42 nin0)))))) (Or.inl ne_a_b76)) (Or.inl ne_a_b89))
      have c390 := (Fld.other W155 (Fld.other W153 (c139.keep K142 (ninS ne_a_b3 (ninS ne_a_b7 (ninS ne_a_b17 (ninS ne_a_b29 (ninS ne_a_b42 nin0)))))) (Or.inl ne_a_b76)) (Or.inl ne_a_b89))
      have c391 := ((f142_0.other W153 ne_b3_b76).other W155 ne_b3_b89)
      have c392 := ((f142_2.other W153 ne_b17_b76).other W155 ne_b17_b89)
      obtain ⟨cq393, q393, q393'⟩ := c382.cell
      obtain ⟨_, _, ⟨T393, L393, k393, n393⟩, -, X393, ⟨Lc393, hQ393, l393, y393, z393⟩, st393⟩ := X388.privateBack hx (y := (⟨"com/example/percurso/percurso/suite/PrefixTree", "link", "(IIII)V"⟩ : MethodName)) hown (mvT hZ (hw _ mm150)) (mvT hZ (hw _ mm151)) (mvT hZ (own_selp (y := (⟨"com/example/percurso/percurso/suite/PrefixTree", "link", "(IIII)V"⟩ : MethodName)) (hw _ mm59) (hw _ mm152) (hw _ mm151) (by decide))) (Cond.privateMethod_at (mvP hZ (hw _ mm152) (args := #[]))) (mvT hZ (hw _ mm153)) (by decide) (backOf (W := 0) (rmLK_3 l Z a0 hw [] a vc b3 k3 b7 k7 b17 k17 b29 k29 b42 k42 (-1 : Int32) (0 : Int32) (0 : Int32) (0 : Int32) (0 : Int32) (-1 : Int32) va (0 : Int32) (0 : Int32) (0 : Int32) (0 : Int32) (1 : Int32) (0 : Int32) (0 : Int32) (0 : Int32) (-1 : Int32) (0 : Int32) (0 : Int32) (0 : Int32) (-1 : Int32) (0 : Int32) (0 : Int32) (0 : Int32) h155 n0 Z155 c389 c375 c390 c376 c377 c391 c378 c392 c379 c380 ge_b3 ge_b7 ge_b17 ge_b29 ge_b42 ne_b3_b7 ne_b3_b17 ne_b3_b29 ne_b3_b42 ne_b7_b17 ne_b7_b29 ne_b7_b42 ne_b17_b29 ne_b17_b42 ne_b29_b42 ne_a_b3 ne_a_b7 ne_a_b17 ne_a_b29 ne_a_b42) hZ (hw _ mm153) (hw _ mm60) (by decide) (by decide)) (g := (mkF m 246 #[lR a, lR su, lJ 5, lS, lI 5, lI 3, lR b76, lR b89, lI 3, lI 0, lI 1, lI 2, lI 2, lI 0, lI vc, lI 2] [(.int 1), (.int 2), (.int vc), (.int 0), (.ref a)])) rfl (by rw [hml]; rfl) (Steps.refl _) (a := a) (by rw [e388]; exact q393) q393' (argsL := [(.int 0), (.int vc), (.int 2), (.int 1)]) (rest := []) (lenOf pd_10 rfl) rfl (by show 2 * 0 + _ ≤ _; exact Nat.le_of_eq rfl) (hb hby d16_246) (fun _ _ => ⟨rfl, e388, (by decide : 7 + 0 ≤ _), (by decide : 31 + 0 ≤ _)⟩)
      dsimp only [Pt.U, Pt.locs, Pt.cells, Pt.slots] at X393 l393 y393 z393 st393 hQ393
      rw [l393, y393, z393] at X393
      have c394 := (Exa.wr W155 (Exa.wr W153 (c143.keep K142)))
      have c395 := (Exa.wr W155 (Exa.wr W153 (c144.keep K142)))
      have c396 := (Exa.wr W155 (Exa.wr W153 (c145.keep K142)))
      have c397 := (Exa.wr W155 (Exa.wr W153 (c146.keep K142)))
      have c398 := (Exa.wr W155 (Exa.wr W153 (c147.keep K142)))
      obtain ⟨hv393, N393q, K393, im393_0, im393_1⟩ := hQ393
      rw [hv393] at st393
      have N393 := Fr.app N388 N393q
      have Z393 : n0 ≤ T393.heap.size := Nat.le_trans Z155 K393.1
      have KK393 : Keep h0 T393.heap [a] := (KK155).trans K393 (allS (Or.inr sz_b3) (allS (Or.inr sz_b7) (allS (Or.inr sz_b17) (allS (Or.inr sz_b29) (allS (Or.inr sz_b42) all0)))))
      obtain ⟨f393_0, f393_1, f393_2, f393_3, f393_4⟩ := im393_1 ho_va_vc
      refine Ds (B := T393.setTop (mkF m 249 #[lR a, lR su, lJ 5, lS, lI 5, lI 3, lR b76, lR b89, lI 3, lI 0, lI 1, lI 2, lI 2, lI 0, lI vc, lI 2] [])) (fun _ k => st393.trans k) ?_
      have c399 := (c389.keep K393 (ninS ne_a_b3 (ninS ne_a_b7 (ninS ne_a_b17 (ninS ne_a_b29 (ninS ne_a_b42 nin0))))))
      have c400 := (c375.keep K393 (ninS ne_a_b3 (ninS ne_a_b7 (ninS ne_a_b17 (ninS ne_a_b29 (ninS ne_a_b42 nin0))))))
      have c401 := (c390.keep K393 (ninS ne_a_b3 (ninS ne_a_b7 (ninS ne_a_b17 (ninS ne_a_b29 (ninS ne_a_b42 nin0))))))
      have c402 := (c376.keep K393 (ninS ne_a_b3 (ninS ne_a_b7 (ninS ne_a_b17 (ninS ne_a_b29 (ninS ne_a_b42 nin0))))))
      have c403 := (c377.keep K393 (ninS ne_a_b3 (ninS ne_a_b7 (ninS ne_a_b17 (ninS ne_a_b29 (ninS ne_a_b42 nin0))))))
      have c404 := ((Fld.other W155 (Fld.other W153 ((Fld.other W120 (Fld.other W113 (Fld.other W105 (Fld.ext E89 (Fld.ext E76 (Fld.other W70 (Fld.other W66 (Fld.other W62 (Fld.other W58 (Fld.other W55 (Fld.ext E42 (Fld.other W41 (Fld.ext E29 (Fld.other W28 (Fld.ext E17 (Fld.other W16 (Fld.ext E7 (Fld.other W6 (Fld.ext E3 F_size) (Or.inr (slot_ne (Or.inr (hw _ mm155)) (Or.inr (hw _ mm121)) (by decide) (t := .int) (t' := (.array .int)) (by decide) (by decide))))) (Or.inr (slot_ne (Or.inr (hw _ mm155)) (Or.inr (hw _ mm123)) (by decide) (t := .int) (t' := (.array .int)) (by decide) (by decide))))) (Or.inr (slot_ne (Or.inr (hw _ mm155)) (Or.inr (hw _ mm125)) (by decide) (t := .int) (t' := (.array .int)) (by decide) (by decide))))) (Or.inr (slot_ne (Or.inr (hw _ mm155)) (Or.inr (hw _ mm127)) (by decide) (t := .int) (t' := (.array .int)) (by decide) (by decide))))) (Or.inr (slot_ne (Or.inr (hw _ mm155)) (Or.inr (hw _ mm129)) (by decide) (t := .int) (t' := (.array .int)) (by decide) (by decide)))) (Or.inl ne_a_b3)) (Or.inl ne_a_b7)) (Or.inl ne_a_b29)) (Or.inl ne_a_b42)))) (Or.inl ne_a_b76)) (Or.inl ne_a_b76)) (Or.inl ne_a_b76)).keep K142 (ninS ne_a_b3 (ninS ne_a_b7 (ninS ne_a_b17 (ninS ne_a_b29 (ninS ne_a_b42 nin0)))))) (Or.inl ne_a_b76)) (Or.inl ne_a_b89)).keep K393 (ninS ne_a_b3 (ninS ne_a_b7 (ninS ne_a_b17 (ninS ne_a_b29 (ninS ne_a_b42 nin0))))))
      have c405 := (c382.keep K393)
      have c406 := (c164.keep K393)
      have c407 := (c160.keep K393 (ninS ne_su_b3 (ninS ne_su_b7 (ninS ne_su_b17 (ninS ne_su_b29 (ninS ne_su_b42 nin0))))))
      have c408 := (c161.keep K393 (ninS ne_u_b3 (ninS ne_u_b7 (ninS ne_u_b17 (ninS ne_u_b29 (ninS ne_u_b42 nin0))))))
      have c409 := (((c150.other W153 ne_cc0_b76).other W155 ne_cc0_b89).keep K393 (ninS ne_cc0_b3 (ninS ne_cc0_b7 (ninS ne_cc0_b17 (ninS ne_cc0_b29 (ninS ne_cc0_b42 nin0))))))
      have c410 := (c162.keep K393 (ninS ne_cc1_b3 (ninS ne_cc1_b7 (ninS ne_cc1_b17 (ninS ne_cc1_b29 (ninS ne_cc1_b42 nin0))))))
      have c411 := (c386.keep K393 (ninS ne_cc2_b3 (ninS ne_cc2_b7 (ninS ne_cc2_b17 (ninS ne_cc2_b29 (ninS ne_cc2_b42 nin0))))))
      have c412 := (c394.keep K393)
      have c413 := (c395.keep K393)
      have c414 := (c396.keep K393)
      have c415 := (c397.keep K393)
      have c416 := (c398.keep K393)
      have c417 := (c158.keep K393 (ninS (Ne.symm ne_b3_b76) (ninS (Ne.symm ne_b7_b76) (ninS (Ne.symm ne_b17_b76) (ninS (Ne.symm ne_b29_b76) (ninS (Ne.symm ne_b42_b76) nin0))))))
      have c418 := ((Exa.wr W155 (Exa.wr W153 ((Exa.wr W120 (Exa.wr W113 (Exa.wr W105 (Exa.ext E89 Ex76)))).keep K142))).keep K393)
      have c419 := (V155.keep K393 (ninS (Ne.symm ne_b3_b89) (ninS (Ne.symm ne_b7_b89) (ninS (Ne.symm ne_b17_b89) (ninS (Ne.symm ne_b29_b89) (ninS (Ne.symm ne_b42_b89) nin0))))))
      have c420 := ((Exa.wr W155 (Exa.wr W153 ((Exa.wr W120 (Exa.wr W113 (Exa.wr W105 Ex89))).keep K142))).keep K393)
      exact jJ2 vc (1 : Int32) (2 : Int32) (-1 : Int32) [((1 : Int32), va), ((2 : Int32), vc)] (2 : Int32) T393 T393.heap _ X393 rfl N393 Z393 KK393 c399 c400 c401 c402 c403 c404 c405 c406 c407 c408 c409 c410 c411 c412 c413 c414 c415 c416 c417 c418 c419 c420 f393_0 f393_1 f393_2 f393_3 f393_4  ⟨⟨rfl, ⟨by decide, by decide⟩, rfl, _, rfl, ⟨rfl, ⟨by decide, by decide⟩, rfl, _, rfl, rfl⟩⟩, Nat.le_of_ble_eq_true rfl, (own_o2 ho_va_vb ho_va_vc).1, rfl, (own_o2 ho_va_vb ho_va_vc).2, rfl, ⟨rfl, ⟨by decide, by decide⟩, rfl, _, rfl, rfl⟩, rfl, Or.inr ⟨rfl, Or.inl rfl⟩⟩
    · have ho_va_vc := hk
      clear hk
      obtain ⟨cq421, kq421, q421a, q421b, q421c⟩ := isOf hZ e387 c382
      obtain ⟨_, _, ⟨T421, L421, k421, n421⟩, -, X421, ⟨Lc421, hQ421, l421, y421, z421⟩, st421⟩ := X387.virtualBack hx (y := (⟨"com/example/percurso/percurso/suite/PrefixTree", "child", "(II)I"⟩ : MethodName)) (z := (⟨"com/example/percurso/percurso/suite/PrefixTree", "child", "(II)I"⟩ : MethodName)) hown (mvT hZ (hw _ mm145)) (mvT hZ (hw _ mm146)) (notFace_of_selects (args := #[]) (mvT hZ (hw _ mm148))) (mvT hZ (hw _ mm148)) (mvT hZ (hw _ mm147)) (by decide) (backOf (W := 0) (rmCH_1 l Z a0 hw [] a (0 : Int32) vc b7 k7 [(.int (-1)), (.int va), (.int 0), (.int 0), (.int 0)] b29 k29 [(.int 1), (.int (-1)), (.int 0), (.int 0), (.int 0)] b42 k42 [(.int (-1)), (.int (-1)), (.int 0), (.int 0), (.int 0)] (1 : Int32) va h155 n0 Z155 c375 c376 c377 c378 c379 c380 ⟨by decide, by decide⟩ rfl ⟨by decide, by decide⟩ rfl rfl) hZ (hw _ mm149) (hw _ mm60) (by decide) (by decide)) q421a q421c (g := (mkF m 217 #[lR a, lR su, lJ 5, lS, lI 5, lI 2, lR b76, lR b89, lI 3, lI 0, lI 1, lI 2, lI 2, lI 0, lI vc, lI 1] [(.int vc), (.int 0), (.ref a)])) rfl (by rw [hml]; rfl) (Steps.refl _) (argsL := [(.int 0), (.int vc)]) (rest := []) (lenOf pd_1 rfl) rfl (by show 2 * 0 + _ ≤ _; exact Nat.le_of_eq rfl) (hb hby d16_217) (fun _ _ => ⟨rfl, e387, (by decide : 7 + 0 ≤ _), (by decide : 31 + 0 ≤ _)⟩)
      dsimp only [Pt.U, Pt.locs, Pt.cells, Pt.slots] at X421 l421 y421 z421 st421 hQ421
      rw [l421, y421, z421] at X421
      obtain ⟨hv421, N421q, e421⟩ := hQ421
      rw [show own_find [((1 : Int32), va)] vc = (1 : Int32) from (own_find_eq ho_va_vc)] at hv421
      rw [hv421] at st421
      have N421 := Fr.app N387 N421q
      refine Ds (B := T421.setTop (mkF m 220 #[lR a, lR su, lJ 5, lS, lI 5, lI 2, lR b76, lR b89, lI 3, lI 0, lI 1, lI 2, lI 2, lI 0, lI vc, lI 1] [(.int 1)])) (fun _ k => st421.trans k) ?_
      refine Ds (B := T421.setTop (mkF m 252 #[lR a, lR su, lJ 5, lS, lI 5, lI 2, lR b76, lR b89, lI 3, lI 0, lI 1, lI 2, lI 2, lI 0, lI vc, lI 1] [(.int 2), (.ref su)])) (fun _ k => XS.istore X421.here hx rfl (hb hby d16_220) rfl (l' := #[lR a, lR su, lJ 5, lS, lI 5, lI 2, lR b76, lR b89, lI 3, lI 0, lI 1, lI 2, lI 2, lI 0, lI vc, lI 1]) rfl (XS.iload X421.here hx rfl (hb hby d16_222) rfl (XS.iconst X421.here hx rfl (hb hby d16_224) (XS.icmpYes X421.here hx rfl (pc0 := 225) (pc' := 249) rfl (hb hby d16_225) rfl (feq (by decide : ¬ ((1 : Int32) = (-1 : Int32)))).2 (by decide) (by decide) (XS.aloadN X421.here hx rfl (hb hby d16_249) rfl rfl (XS.iload X421.here hx rfl (hb hby d16_250) rfl k)))))) ?_
      obtain ⟨cq422, kq422, q422a, q422b, q422c⟩ := isOf hZ e421 c164
      obtain ⟨_, _, ⟨T422, L422, k422, n422⟩, -, X422, ⟨Lc422, hQ422, l422, y422, z422⟩, st422⟩ := X421.virtualBack hx (y := (⟨"com/example/percurso/percurso/suite/Suite", "length", "(I)I"⟩ : MethodName)) (z := (⟨"com/example/percurso/percurso/suite/Suite", "length", "(I)I"⟩ : MethodName)) hown (mvT hZ (hw _ mm135)) (mvT hZ (hw _ mm136)) (notFace_of_selects (args := #[]) (mvT hZ (hw _ mm138))) (mvT hZ (hw _ mm138)) (mvT hZ (hw _ mm137)) (by decide) (backOf (W := 0) (rm19 l Z a0 hw [] su (2 : Int32) u ku [(.ref cc0), (.ref cc1), (.ref cc2)] cc2 kel2 (1 : Int32) [(.int vc)] h155 n0 Z155 c160 c161 ⟨by decide, by decide⟩ rfl c386) hZ (hw _ mm139) (hw _ mm63) (by decide) (by decide)) q422a q422c (g := (mkF m 252 #[lR a, lR su, lJ 5, lS, lI 5, lI 2, lR b76, lR b89, lI 3, lI 0, lI 1, lI 2, lI 2, lI 0, lI vc, lI 1] [(.int 2), (.ref su)])) rfl (by rw [hml]; rfl) (Steps.refl _) (argsL := [(.int 2)]) (rest := []) (lenOf pd_9 rfl) rfl (by show 2 * 0 + _ ≤ _; exact Nat.le_of_eq rfl) (hb hby d16_252) (fun _ _ => ⟨rfl, e421, (by decide : 7 + 0 ≤ _), (by decide : 31 + 0 ≤ _)⟩)
      dsimp only [Pt.U, Pt.locs, Pt.cells, Pt.slots] at X422 l422 y422 z422 st422 hQ422
      rw [l422, y422, z422] at X422
      obtain ⟨hv422, N422q, e422⟩ := hQ422
      rw [hv422] at st422
      have N422 := Fr.app N421 N422q
      refine Ds (B := T422.setTop (mkF m 255 #[lR a, lR su, lJ 5, lS, lI 5, lI 2, lR b76, lR b89, lI 3, lI 0, lI 1, lI 2, lI 2, lI 0, lI vc, lI 1] [(.int 1)])) (fun _ k => st422.trans k) ?_
      refine Ds (B := T422.setTop (mkF m 181 #[lR a, lR su, lJ 5, lS, lI 5, lI 2, lR b76, lR b89, lI 3, lI 0, lI 1, lI 3, lI 2, lI 0, lI vc, lI 1] [])) (fun _ k => XS.iload X422.here hx rfl (hb hby d16_255) rfl (XS.iconst X422.here hx rfl (hb hby d16_257) (XS.iadd X422.here hx rfl (hb hby d16_258) rfl (XS.icmpYes X422.here hx rfl (pc0 := 259) (pc' := 279) rfl (hb hby d16_259) rfl (flt (by decide : ¬ ((1 : Int32) < (1 : Int32)))).2.2.2 (by decide) (by decide) (XS.iinc X422.here hx rfl (hb hby d16_279) rfl (l' := #[lR a, lR su, lJ 5, lS, lI 5, lI 2, lR b76, lR b89, lI 3, lI 0, lI 1, lI 3, lI 2, lI 0, lI vc, lI 1]) rfl (XS.goto X422.here hx rfl (pc0 := 282) (pc' := 181) rfl (hb hby d16_282) (by decide) (by decide) k)))))) ?_
      refine Ds (B := T422.setTop (mkF m 292 #[lR a, lR su, lJ 5, lS, lI 5, lI 2, lR b76, lR b89, lI 1, lI 1, lI 1, lI 3, lI 2, lI 0, lI vc, lI 1] [])) (fun _ k => XS.iload X422.here hx rfl (hb hby d16_181) rfl (XS.iload X422.here hx rfl (hb hby d16_183) rfl (XS.icmpYes X422.here hx rfl (pc0 := 185) (pc' := 285) rfl (hb hby d16_185) rfl (flt (by decide : ¬ ((3 : Int32) < (3 : Int32)))).2.1 (by decide) (by decide) (XS.iload X422.here hx rfl (hb hby d16_285) rfl (XS.istore X422.here hx rfl (hb hby d16_287) rfl (l' := #[lR a, lR su, lJ 5, lS, lI 5, lI 2, lR b76, lR b89, lI 1, lI 0, lI 1, lI 3, lI 2, lI 0, lI vc, lI 1]) rfl (XS.iinc X422.here hx rfl (hb hby d16_289) rfl (l' := #[lR a, lR su, lJ 5, lS, lI 5, lI 2, lR b76, lR b89, lI 1, lI 1, lI 1, lI 3, lI 2, lI 0, lI vc, lI 1]) rfl k)))))) ?_
      refine Ds (B := T422.setTop (mkF m 175 #[lR a, lR su, lJ 5, lS, lI 5, lI 2, lR b76, lR b89, lI 1, lI 1, lI 1, lI 3, lI 2, lI 0, lI vc, lI 1] [])) (fun _ k => XS.goto X422.here hx rfl (pc0 := 292) (pc' := 170) rfl (hb hby d16_292) (by decide) (by decide) (XS.iload X422.here hx rfl (hb hby d16_170) rfl (XS.ifNo X422.here hx rfl (hb hby d16_172) rfl ((if0 _ _).trans (tlt (by decide : (0 : Int32) < (1 : Int32))).2.2.2) k))) ?_
      refine Ds (B := T422.setTop (mkF m 185 #[lR a, lR su, lJ 5, lS, lI 5, lI 2, lR b76, lR b89, lI 1, lI 1, lI 0, lI 0, lI 2, lI 0, lI vc, lI 1] [(.int 1), (.int 0)])) (fun _ k => XS.iconst X422.here hx rfl (hb hby d16_175) (XS.istore X422.here hx rfl (hb hby d16_176) rfl (l' := #[lR a, lR su, lJ 5, lS, lI 5, lI 2, lR b76, lR b89, lI 1, lI 1, lI 0, lI 3, lI 2, lI 0, lI vc, lI 1]) rfl (XS.iconst X422.here hx rfl (hb hby d16_178) (XS.istore X422.here hx rfl (hb hby d16_179) rfl (l' := #[lR a, lR su, lJ 5, lS, lI 5, lI 2, lR b76, lR b89, lI 1, lI 1, lI 0, lI 0, lI 2, lI 0, lI vc, lI 1]) rfl (XS.iload X422.here hx rfl (hb hby d16_181) rfl (XS.iload X422.here hx rfl (hb hby d16_183) rfl k)))))) ?_
      refine Ds (B := T422.setTop (mkF m 192 #[lR a, lR su, lJ 5, lS, lI 5, lI 2, lR b76, lR b89, lI 1, lI 1, lI 0, lI 0, lI 2, lI 0, lI vc, lI 1] [(.int 0), (.ref b76)])) (fun _ k => XS.icmpNo X422.here hx rfl (hb hby d16_185) rfl (tlt (by decide : (0 : Int32) < (1 : Int32))).2.1 (XS.aload X422.here hx rfl (hb hby d16_188) rfl rfl (XS.iload X422.here hx rfl (hb hby d16_190) rfl k))) ?_
      obtain ⟨cl423, Ar423, q423, S423, M423, H423, G423⟩ := id c158
      have hin423 : ¬ ((0 : Int32) < 0 ∨ cl423.slots.size ≤ ((0 : Int32)).toNatClampNeg) := inb_of S423 ⟨by decide, by decide⟩
      have hat423 : cl423.slots[((0 : Int32)).toNatClampNeg]? = some (.int 0) := Has.at H423 hin423 rfl
      refine Ds (B := T422.setTop (mkF m 193 #[lR a, lR su, lJ 5, lS, lI 5, lI 2, lR b76, lR b89, lI 1, lI 1, lI 0, lI 0, lI 2, lI 0, lI vc, lI 1] [(.int 0)])) (fun _ k => X422.iaload hx (j := (0 : Int32)) (v := (.int 0)) (by rw [e422]; exact Ar423.1) (State.isArrayOf_alike hZ.alike Ar423.2.1) Ar423.2.2 hin423 hat423 (g := (mkF m 192 #[lR a, lR su, lJ 5, lS, lI 5, lI 2, lR b76, lR b89, lI 1, lI 1, lI 0, lI 0, lI 2, lI 0, lI vc, lI 1] [(.int 0), (.ref b76)])) rfl rfl (hb hby d16_192) _ k) ?_
      refine Ds (B := T422.setTop (mkF m 199 #[lR a, lR su, lJ 5, lS, lI 5, lI 2, lR b76, lR b89, lI 1, lI 1, lI 0, lI 0, lI 0, lI 0, lI vc, lI 1] [(.int 0), (.ref b89)])) (fun _ k => XS.istore X422.here hx rfl (hb hby d16_193) rfl (l' := #[lR a, lR su, lJ 5, lS, lI 5, lI 2, lR b76, lR b89, lI 1, lI 1, lI 0, lI 0, lI 0, lI 0, lI vc, lI 1]) rfl (XS.aload X422.here hx rfl (hb hby d16_195) rfl rfl (XS.iload X422.here hx rfl (hb hby d16_197) rfl k))) ?_
      obtain ⟨cl424, Ar424, q424, S424, M424, H424, G424⟩ := id V155
      have hin424 : ¬ ((0 : Int32) < 0 ∨ cl424.slots.size ≤ ((0 : Int32)).toNatClampNeg) := inb_of S424 ⟨by decide, by decide⟩
      have hat424 : cl424.slots[((0 : Int32)).toNatClampNeg]? = some (.int 1) := Has.at H424 hin424 rfl
      refine Ds (B := T422.setTop (mkF m 200 #[lR a, lR su, lJ 5, lS, lI 5, lI 2, lR b76, lR b89, lI 1, lI 1, lI 0, lI 0, lI 0, lI 0, lI vc, lI 1] [(.int 1)])) (fun _ k => X422.iaload hx (j := (0 : Int32)) (v := (.int 1)) (by rw [e422]; exact Ar424.1) (State.isArrayOf_alike hZ.alike Ar424.2.1) Ar424.2.2 hin424 hat424 (g := (mkF m 199 #[lR a, lR su, lJ 5, lS, lI 5, lI 2, lR b76, lR b89, lI 1, lI 1, lI 0, lI 0, lI 0, lI 0, lI vc, lI 1] [(.int 0), (.ref b89)])) rfl rfl (hb hby d16_199) _ k) ?_
      refine Ds (B := T422.setTop (mkF m 207 #[lR a, lR su, lJ 5, lS, lI 5, lI 2, lR b76, lR b89, lI 1, lI 1, lI 0, lI 0, lI 0, lI 1, lI vc, lI 1] [(.int 1), (.int 0), (.ref su)])) (fun _ k => XS.istore X422.here hx rfl (hb hby d16_200) rfl (l' := #[lR a, lR su, lJ 5, lS, lI 5, lI 2, lR b76, lR b89, lI 1, lI 1, lI 0, lI 0, lI 0, lI 1, lI vc, lI 1]) rfl (XS.aloadN X422.here hx rfl (hb hby d16_202) rfl rfl (XS.iload X422.here hx rfl (hb hby d16_203) rfl (XS.iload X422.here hx rfl (hb hby d16_205) rfl k)))) ?_
      have c425 := ((c150.other W153 ne_cc0_b76).other W155 ne_cc0_b89)
      obtain ⟨cq426, kq426, q426a, q426b, q426c⟩ := isOf hZ e422 c164
      obtain ⟨_, _, ⟨T426, L426, k426, n426⟩, -, X426, ⟨Lc426, hQ426, l426, y426, z426⟩, st426⟩ := X422.virtualBack hx (y := (⟨"com/example/percurso/percurso/suite/Suite", "input", "(II)I"⟩ : MethodName)) (z := (⟨"com/example/percurso/percurso/suite/Suite", "input", "(II)I"⟩ : MethodName)) hown (mvT hZ (hw _ mm140)) (mvT hZ (hw _ mm141)) (notFace_of_selects (args := #[]) (mvT hZ (hw _ mm143))) (mvT hZ (hw _ mm143)) (mvT hZ (hw _ mm142)) (by decide) (backOf (W := 0) (rm20 l Z a0 hw [] su (0 : Int32) (1 : Int32) u ku [(.ref cc0), (.ref cc1), (.ref cc2)] cc0 kel0 (2 : Int32) [(.int va), (.int vd)] vd h155 n0 Z155 c160 c161 ⟨by decide, by decide⟩ rfl c425 ⟨by decide, by decide⟩ rfl) hZ (hw _ mm144) (hw _ mm63) (by decide) (by decide)) q426a q426c (g := (mkF m 207 #[lR a, lR su, lJ 5, lS, lI 5, lI 2, lR b76, lR b89, lI 1, lI 1, lI 0, lI 0, lI 0, lI 1, lI vc, lI 1] [(.int 1), (.int 0), (.ref su)])) rfl (by rw [hml]; rfl) (Steps.refl _) (argsL := [(.int 0), (.int 1)]) (rest := []) (lenOf pd_1 rfl) rfl (by show 2 * 0 + _ ≤ _; exact Nat.le_of_eq rfl) (hb hby d16_207) (fun _ _ => ⟨rfl, e422, (by decide : 7 + 0 ≤ _), (by decide : 31 + 0 ≤ _)⟩)
      dsimp only [Pt.U, Pt.locs, Pt.cells, Pt.slots] at X426 l426 y426 z426 st426 hQ426
      rw [l426, y426, z426] at X426
      obtain ⟨hv426, N426q, e426⟩ := hQ426
      rw [hv426] at st426
      have N426 := Fr.app N422 N426q
      refine Ds (B := T426.setTop (mkF m 210 #[lR a, lR su, lJ 5, lS, lI 5, lI 2, lR b76, lR b89, lI 1, lI 1, lI 0, lI 0, lI 0, lI 1, lI vc, lI 1] [(.int vd)])) (fun _ k => st426.trans k) ?_
      refine Ds (B := T426.setTop (mkF m 217 #[lR a, lR su, lJ 5, lS, lI 5, lI 2, lR b76, lR b89, lI 1, lI 1, lI 0, lI 0, lI 0, lI 1, lI vd, lI 1] [(.int vd), (.int 1), (.ref a)])) (fun _ k => XS.istore X426.here hx rfl (hb hby d16_210) rfl (l' := #[lR a, lR su, lJ 5, lS, lI 5, lI 2, lR b76, lR b89, lI 1, lI 1, lI 0, lI 0, lI 0, lI 1, lI vd, lI 1]) rfl (XS.aloadN X426.here hx rfl (hb hby d16_212) rfl rfl (XS.iload X426.here hx rfl (hb hby d16_213) rfl (XS.iload X426.here hx rfl (hb hby d16_215) rfl k)))) ?_
      obtain ⟨cq427, kq427, q427a, q427b, q427c⟩ := isOf hZ e426 c382
      obtain ⟨_, _, ⟨T427, L427, k427, n427⟩, -, X427, ⟨Lc427, hQ427, l427, y427, z427⟩, st427⟩ := X426.virtualBack hx (y := (⟨"com/example/percurso/percurso/suite/PrefixTree", "child", "(II)I"⟩ : MethodName)) (z := (⟨"com/example/percurso/percurso/suite/PrefixTree", "child", "(II)I"⟩ : MethodName)) hown (mvT hZ (hw _ mm145)) (mvT hZ (hw _ mm146)) (notFace_of_selects (args := #[]) (mvT hZ (hw _ mm148))) (mvT hZ (hw _ mm148)) (mvT hZ (hw _ mm147)) (by decide) (backOf (W := 0) (rmCH_0 l Z a0 hw [] a (1 : Int32) vd b7 k7 [(.int (-1)), (.int va), (.int 0), (.int 0), (.int 0)] b29 k29 [(.int 1), (.int (-1)), (.int 0), (.int 0), (.int 0)] b42 k42 [(.int (-1)), (.int (-1)), (.int 0), (.int 0), (.int 0)] h155 n0 Z155 c375 c376 c377 c378 c379 c380 ⟨by decide, by decide⟩ rfl) hZ (hw _ mm149) (hw _ mm60) (by decide) (by decide)) q427a q427c (g := (mkF m 217 #[lR a, lR su, lJ 5, lS, lI 5, lI 2, lR b76, lR b89, lI 1, lI 1, lI 0, lI 0, lI 0, lI 1, lI vd, lI 1] [(.int vd), (.int 1), (.ref a)])) rfl (by rw [hml]; rfl) (Steps.refl _) (argsL := [(.int 1), (.int vd)]) (rest := []) (lenOf pd_1 rfl) rfl (by show 2 * 0 + _ ≤ _; exact Nat.le_of_eq rfl) (hb hby d16_217) (fun _ _ => ⟨rfl, e426, (by decide : 7 + 0 ≤ _), (by decide : 31 + 0 ≤ _)⟩)
      dsimp only [Pt.U, Pt.locs, Pt.cells, Pt.slots] at X427 l427 y427 z427 st427 hQ427
      rw [l427, y427, z427] at X427
      obtain ⟨hv427, N427q, e427⟩ := hQ427
      rw [show own_find [] vd = (-1 : Int32) from rfl] at hv427
      rw [hv427] at st427
      have N427 := Fr.app N426 N427q
      refine Ds (B := T427.setTop (mkF m 220 #[lR a, lR su, lJ 5, lS, lI 5, lI 2, lR b76, lR b89, lI 1, lI 1, lI 0, lI 0, lI 0, lI 1, lI vd, lI 1] [(.int (-1))])) (fun _ k => st427.trans k) ?_
      refine Ds (B := T427.setTop (mkF m 233 #[lR a, lR su, lJ 5, lS, lI 5, lI 3, lR b76, lR b89, lI 1, lI 1, lI 0, lI 0, lI 0, lI 1, lI vd, lI (-1)] [(.int 2)])) (fun _ k => XS.istore X427.here hx rfl (hb hby d16_220) rfl (l' := #[lR a, lR su, lJ 5, lS, lI 5, lI 2, lR b76, lR b89, lI 1, lI 1, lI 0, lI 0, lI 0, lI 1, lI vd, lI (-1)]) rfl (XS.iload X427.here hx rfl (hb hby d16_222) rfl (XS.iconst X427.here hx rfl (hb hby d16_224) (XS.icmpNo X427.here hx rfl (hb hby d16_225) rfl (teq (rfl : (-1 : Int32) = (-1 : Int32))).2 (XS.iload X427.here hx rfl (hb hby d16_228) rfl (XS.iinc X427.here hx rfl (hb hby d16_230) rfl (l' := #[lR a, lR su, lJ 5, lS, lI 5, lI 3, lR b76, lR b89, lI 1, lI 1, lI 0, lI 0, lI 0, lI 1, lI vd, lI (-1)]) rfl k)))))) ?_
      refine Ds (B := T427.setTop (mkF m 244 #[lR a, lR su, lJ 5, lS, lI 5, lI 3, lR b76, lR b89, lI 1, lI 1, lI 0, lI 0, lI 0, lI 1, lI vd, lI 2] [(.int 1), (.int 2), (.int vd), (.int 1), (.ref a)])) (fun _ k => XS.istore X427.here hx rfl (hb hby d16_233) rfl (l' := #[lR a, lR su, lJ 5, lS, lI 5, lI 3, lR b76, lR b89, lI 1, lI 1, lI 0, lI 0, lI 0, lI 1, lI vd, lI 2]) rfl (XS.aloadN X427.here hx rfl (hb hby d16_235) rfl rfl (XS.iload X427.here hx rfl (hb hby d16_236) rfl (XS.iload X427.here hx rfl (hb hby d16_238) rfl (XS.iload X427.here hx rfl (hb hby d16_240) rfl (XS.iload X427.here hx rfl (hb hby d16_242) rfl k)))))) ?_
      refine Ds (B := T427.setTop (mkF m 246 #[lR a, lR su, lJ 5, lS, lI 5, lI 3, lR b76, lR b89, lI 1, lI 1, lI 0, lI 0, lI 0, lI 1, lI vd, lI 2] [(.int 2), (.int 2), (.int vd), (.int 1), (.ref a)])) (fun _ k => XS.iconst X427.here hx rfl (hb hby d16_244) (XS.iadd X427.here hx rfl (hb hby d16_245) rfl k)) ?_
      have c428 := (Fld.other W155 (Fld.other W153 (c138.keep K142 (ninS ne_a_b3 (ninS ne_a_b7 (ninS ne_a_b17 (ninS ne_a_b29 (ninS ne_a_b42 nin0)))))) (Or.inl ne_a_b76)) (Or.inl ne_a_b89))
      have c429 := (Fld.other W155 (Fld.other W153 (c139.keep K142 (ninS ne_a_b3 (ninS ne_a_b7 (ninS ne_a_b17 (ninS ne_a_b29 (ninS ne_a_b42 nin0)))))) (Or.inl ne_a_b76)) (Or.inl ne_a_b89))
      have c430 := ((f142_0.other W153 ne_b3_b76).other W155 ne_b3_b89)
      have c431 := ((f142_2.other W153 ne_b17_b76).other W155 ne_b17_b89)
      obtain ⟨cq432, q432, q432'⟩ := c382.cell
      obtain ⟨_, _, ⟨T432, L432, k432, n432⟩, -, X432, ⟨Lc432, hQ432, l432, y432, z432⟩, st432⟩ := X427.privateBack hx (y := (⟨"com/example/percurso/percurso/suite/PrefixTree", "link", "(IIII)V"⟩ : MethodName)) hown (mvT hZ (hw _ mm150)) (mvT hZ (hw _ mm151)) (mvT hZ (own_selp (y := (⟨"com/example/percurso/percurso/suite/PrefixTree", "link", "(IIII)V"⟩ : MethodName)) (hw _ mm59) (hw _ mm152) (hw _ mm151) (by decide))) (Cond.privateMethod_at (mvP hZ (hw _ mm152) (args := #[]))) (mvT hZ (hw _ mm153)) (by decide) (backOf (W := 0) (rmLK_5 l Z a0 hw [] a vd b3 k3 b7 k7 b17 k17 b29 k29 b42 k42 (-1 : Int32) (0 : Int32) (0 : Int32) (0 : Int32) (0 : Int32) (-1 : Int32) va (0 : Int32) (0 : Int32) (0 : Int32) (0 : Int32) (1 : Int32) (0 : Int32) (0 : Int32) (0 : Int32) (1 : Int32) (0 : Int32) (0 : Int32) (0 : Int32) (-1 : Int32) (-1 : Int32) (0 : Int32) (0 : Int32) (0 : Int32) h155 n0 Z155 c428 c375 c429 c376 c377 c430 c378 c431 c379 c380 ge_b3 ge_b7 ge_b17 ge_b29 ge_b42 ne_b3_b7 ne_b3_b17 ne_b3_b29 ne_b3_b42 ne_b7_b17 ne_b7_b29 ne_b7_b42 ne_b17_b29 ne_b17_b42 ne_b29_b42 ne_a_b3 ne_a_b7 ne_a_b17 ne_a_b29 ne_a_b42) hZ (hw _ mm153) (hw _ mm60) (by decide) (by decide)) (g := (mkF m 246 #[lR a, lR su, lJ 5, lS, lI 5, lI 3, lR b76, lR b89, lI 1, lI 1, lI 0, lI 0, lI 0, lI 1, lI vd, lI 2] [(.int 2), (.int 2), (.int vd), (.int 1), (.ref a)])) rfl (by rw [hml]; rfl) (Steps.refl _) (a := a) (by rw [e427]; exact q432) q432' (argsL := [(.int 1), (.int vd), (.int 2), (.int 2)]) (rest := []) (lenOf pd_10 rfl) rfl (by show 2 * 0 + _ ≤ _; exact Nat.le_of_eq rfl) (hb hby d16_246) (fun _ _ => ⟨rfl, e427, (by decide : 7 + 0 ≤ _), (by decide : 31 + 0 ≤ _)⟩)
      dsimp only [Pt.U, Pt.locs, Pt.cells, Pt.slots] at X432 l432 y432 z432 st432 hQ432
      rw [l432, y432, z432] at X432
      have c433 := (Exa.wr W155 (Exa.wr W153 (c143.keep K142)))
      have c434 := (Exa.wr W155 (Exa.wr W153 (c144.keep K142)))
      have c435 := (Exa.wr W155 (Exa.wr W153 (c145.keep K142)))
      have c436 := (Exa.wr W155 (Exa.wr W153 (c146.keep K142)))
      have c437 := (Exa.wr W155 (Exa.wr W153 (c147.keep K142)))
      obtain ⟨hv432, N432q, K432, im432_0⟩ := hQ432
      rw [hv432] at st432
      have N432 := Fr.app N427 N432q
      have Z432 : n0 ≤ T432.heap.size := Nat.le_trans Z155 K432.1
      have KK432 : Keep h0 T432.heap [a] := (KK155).trans K432 (allS (Or.inr sz_b3) (allS (Or.inr sz_b7) (allS (Or.inr sz_b17) (allS (Or.inr sz_b29) (allS (Or.inr sz_b42) all0)))))
      obtain ⟨f432_0, f432_1, f432_2, f432_3, f432_4⟩ := im432_0
      refine Ds (B := T432.setTop (mkF m 249 #[lR a, lR su, lJ 5, lS, lI 5, lI 3, lR b76, lR b89, lI 1, lI 1, lI 0, lI 0, lI 0, lI 1, lI vd, lI 2] [])) (fun _ k => st432.trans k) ?_
      refine Ds (B := T432.setTop (mkF m 252 #[lR a, lR su, lJ 5, lS, lI 5, lI 3, lR b76, lR b89, lI 1, lI 1, lI 0, lI 0, lI 0, lI 1, lI vd, lI 2] [(.int 0), (.ref su)])) (fun _ k => XS.aloadN X432.here hx rfl (hb hby d16_249) rfl rfl (XS.iload X432.here hx rfl (hb hby d16_250) rfl k)) ?_
      have c438 := (c160.keep K432 (ninS ne_su_b3 (ninS ne_su_b7 (ninS ne_su_b17 (ninS ne_su_b29 (ninS ne_su_b42 nin0))))))
      have c439 := (c161.keep K432 (ninS ne_u_b3 (ninS ne_u_b7 (ninS ne_u_b17 (ninS ne_u_b29 (ninS ne_u_b42 nin0))))))
      have c440 := (c425.keep K432 (ninS ne_cc0_b3 (ninS ne_cc0_b7 (ninS ne_cc0_b17 (ninS ne_cc0_b29 (ninS ne_cc0_b42 nin0))))))
      have c442 := (c164.keep K432)
      obtain ⟨cq441, kq441, q441a, q441b, q441c⟩ := isOf hZ rfl c442
      obtain ⟨_, _, ⟨T441, L441, k441, n441⟩, -, X441, ⟨Lc441, hQ441, l441, y441, z441⟩, st441⟩ := X432.virtualBack hx (y := (⟨"com/example/percurso/percurso/suite/Suite", "length", "(I)I"⟩ : MethodName)) (z := (⟨"com/example/percurso/percurso/suite/Suite", "length", "(I)I"⟩ : MethodName)) hown (mvT hZ (hw _ mm135)) (mvT hZ (hw _ mm136)) (notFace_of_selects (args := #[]) (mvT hZ (hw _ mm138))) (mvT hZ (hw _ mm138)) (mvT hZ (hw _ mm137)) (by decide) (backOf (W := 0) (rm19 l Z a0 hw [] su (0 : Int32) u ku [(.ref cc0), (.ref cc1), (.ref cc2)] cc0 kel0 (2 : Int32) [(.int va), (.int vd)] T432.heap n0 Z432 c438 c439 ⟨by decide, by decide⟩ rfl c440) hZ (hw _ mm139) (hw _ mm63) (by decide) (by decide)) q441a q441c (g := (mkF m 252 #[lR a, lR su, lJ 5, lS, lI 5, lI 3, lR b76, lR b89, lI 1, lI 1, lI 0, lI 0, lI 0, lI 1, lI vd, lI 2] [(.int 0), (.ref su)])) rfl (by rw [hml]; rfl) (Steps.refl _) (argsL := [(.int 0)]) (rest := []) (lenOf pd_9 rfl) rfl (by show 2 * 0 + _ ≤ _; exact Nat.le_of_eq rfl) (hb hby d16_252) (fun _ _ => ⟨rfl, rfl, (by decide : 7 + 0 ≤ _), (by decide : 31 + 0 ≤ _)⟩)
      dsimp only [Pt.U, Pt.locs, Pt.cells, Pt.slots] at X441 l441 y441 z441 st441 hQ441
      rw [l441, y441, z441] at X441
      obtain ⟨hv441, N441q, e441⟩ := hQ441
      rw [hv441] at st441
      have N441 := Fr.app N432 N441q
      refine Ds (B := T441.setTop (mkF m 255 #[lR a, lR su, lJ 5, lS, lI 5, lI 3, lR b76, lR b89, lI 1, lI 1, lI 0, lI 0, lI 0, lI 1, lI vd, lI 2] [(.int 2)])) (fun _ k => st441.trans k) ?_
      refine Ds (B := T441.setTop (mkF m 181 #[lR a, lR su, lJ 5, lS, lI 5, lI 3, lR b76, lR b89, lI 1, lI 1, lI 0, lI 1, lI 0, lI 1, lI vd, lI 2] [])) (fun _ k => XS.iload X441.here hx rfl (hb hby d16_255) rfl (XS.iconst X441.here hx rfl (hb hby d16_257) (XS.iadd X441.here hx rfl (hb hby d16_258) rfl (XS.icmpYes X441.here hx rfl (pc0 := 259) (pc' := 279) rfl (hb hby d16_259) rfl (flt (by decide : ¬ ((2 : Int32) < (2 : Int32)))).2.2.2 (by decide) (by decide) (XS.iinc X441.here hx rfl (hb hby d16_279) rfl (l' := #[lR a, lR su, lJ 5, lS, lI 5, lI 3, lR b76, lR b89, lI 1, lI 1, lI 0, lI 1, lI 0, lI 1, lI vd, lI 2]) rfl (XS.goto X441.here hx rfl (pc0 := 282) (pc' := 181) rfl (hb hby d16_282) (by decide) (by decide) k)))))) ?_
      refine Ds (B := T441.setTop (mkF m 292 #[lR a, lR su, lJ 5, lS, lI 5, lI 3, lR b76, lR b89, lI 0, lI 2, lI 0, lI 1, lI 0, lI 1, lI vd, lI 2] [])) (fun _ k => XS.iload X441.here hx rfl (hb hby d16_181) rfl (XS.iload X441.here hx rfl (hb hby d16_183) rfl (XS.icmpYes X441.here hx rfl (pc0 := 185) (pc' := 285) rfl (hb hby d16_185) rfl (flt (by decide : ¬ ((1 : Int32) < (1 : Int32)))).2.1 (by decide) (by decide) (XS.iload X441.here hx rfl (hb hby d16_285) rfl (XS.istore X441.here hx rfl (hb hby d16_287) rfl (l' := #[lR a, lR su, lJ 5, lS, lI 5, lI 3, lR b76, lR b89, lI 0, lI 1, lI 0, lI 1, lI 0, lI 1, lI vd, lI 2]) rfl (XS.iinc X441.here hx rfl (hb hby d16_289) rfl (l' := #[lR a, lR su, lJ 5, lS, lI 5, lI 3, lR b76, lR b89, lI 0, lI 2, lI 0, lI 1, lI 0, lI 1, lI vd, lI 2]) rfl k)))))) ?_
      refine Ds (B := T441.setTop (mkF m 295 #[lR a, lR su, lJ 5, lS, lI 5, lI 3, lR b76, lR b89, lI 0, lI 2, lI 0, lI 1, lI 0, lI 1, lI vd, lI 2] [])) (fun _ k => XS.goto X441.here hx rfl (pc0 := 292) (pc' := 170) rfl (hb hby d16_292) (by decide) (by decide) (XS.iload X441.here hx rfl (hb hby d16_170) rfl (XS.ifYes X441.here hx rfl (pc0 := 172) (pc' := 295) rfl (hb hby d16_172) rfl ((if0 _ _).trans (flt (by decide : ¬ ((0 : Int32) < (0 : Int32)))).2.2.2) (by decide) (by decide) k))) ?_
      refine Ds (B := T441.setTop (mkF m 298 #[lR a, lR su, lJ 5, lS, lI 5, lI 3, lR b76, lR b89, lI 0, lI 2, lI 0, lI 1, lI 0, lI 1, lI vd, lI 2] [(.int 3), (.ref a)])) (fun _ k => XS.aloadN X441.here hx rfl (hb hby d16_295) rfl rfl (XS.iload X441.here hx rfl (hb hby d16_296) rfl k)) ?_
      have c443 := (c382.keep K432)
      have c444 := ((Fld.other W155 (Fld.other W153 ((Fld.other W120 (Fld.other W113 (Fld.other W105 (Fld.ext E89 (Fld.ext E76 (Fld.other W70 (Fld.other W66 (Fld.other W62 (Fld.other W58 (Fld.other W55 (Fld.ext E42 (Fld.other W41 (Fld.ext E29 (Fld.other W28 (Fld.ext E17 (Fld.other W16 (Fld.ext E7 (Fld.other W6 (Fld.ext E3 F_size) (Or.inr (slot_ne (Or.inr (hw _ mm155)) (Or.inr (hw _ mm121)) (by decide) (t := .int) (t' := (.array .int)) (by decide) (by decide))))) (Or.inr (slot_ne (Or.inr (hw _ mm155)) (Or.inr (hw _ mm123)) (by decide) (t := .int) (t' := (.array .int)) (by decide) (by decide))))) (Or.inr (slot_ne (Or.inr (hw _ mm155)) (Or.inr (hw _ mm125)) (by decide) (t := .int) (t' := (.array .int)) (by decide) (by decide))))) (Or.inr (slot_ne (Or.inr (hw _ mm155)) (Or.inr (hw _ mm127)) (by decide) (t := .int) (t' := (.array .int)) (by decide) (by decide))))) (Or.inr (slot_ne (Or.inr (hw _ mm155)) (Or.inr (hw _ mm129)) (by decide) (t := .int) (t' := (.array .int)) (by decide) (by decide)))) (Or.inl ne_a_b3)) (Or.inl ne_a_b7)) (Or.inl ne_a_b29)) (Or.inl ne_a_b42)))) (Or.inl ne_a_b76)) (Or.inl ne_a_b76)) (Or.inl ne_a_b76)).keep K142 (ninS ne_a_b3 (ninS ne_a_b7 (ninS ne_a_b17 (ninS ne_a_b29 (ninS ne_a_b42 nin0)))))) (Or.inl ne_a_b76)) (Or.inl ne_a_b89)).keep K432 (ninS ne_a_b3 (ninS ne_a_b7 (ninS ne_a_b17 (ninS ne_a_b29 (ninS ne_a_b42 nin0))))))
      obtain ⟨T445, h445, X445, e445, W445, st445⟩ := putF X441 hx hZ hown (host := "") (Or.inl (hw _ mm154)) Via.refl e441 c444 c443 (Or.inr ⟨(hw _ mm155), rfl, hnm⟩) (hw _ mm59) (ty := .int) (by decide) rfl rfl (g := (mkF m 298 #[lR a, lR su, lJ 5, lS, lI 5, lI 3, lR b76, lR b89, lI 0, lI 2, lI 0, lI 1, lI 0, lI 1, lI vd, lI 2] [(.int 3), (.ref a)])) rfl rfl (hb hby d16_298)
      have F445 := Fld.same W445 c444
      have N445 := Fr.snoc X445 N441 gs
      have Z445 : n0 ≤ h445.size := Nat.le_trans Z432 (Keep.of_wr W445).1
      have KK445 : Keep h0 h445 [a] := (KK432).wr W445 (Or.inl (List.mem_of_getElem? (i := 0) rfl))
      refine Ds (B := T445.setTop (mkF m 301 #[lR a, lR su, lJ 5, lS, lI 5, lI 3, lR b76, lR b89, lI 0, lI 2, lI 0, lI 1, lI 0, lI 1, lI vd, lI 2] [])) (fun _ k => st445 _ k) ?_
      obtain ⟨fs, hr, hrun, hended, hW, hsame⟩ := X445.leave (v := none) (hlocks := hlk) (fun _ => rfl)
      have c447 := (Exa.wr W445 c443)
      have c448 := (Fld.other W445 (c375.keep K432 (ninS ne_a_b3 (ninS ne_a_b7 (ninS ne_a_b17 (ninS ne_a_b29 (ninS ne_a_b42 nin0)))))) (Or.inr (slot_ne (Or.inr (hw _ mm123)) (Or.inr (hw _ mm155)) (by decide) (t := (.array .int)) (t' := .int) (by decide) (by decide))))
      have c449 := (Fld.other W445 (c376.keep K432 (ninS ne_a_b3 (ninS ne_a_b7 (ninS ne_a_b17 (ninS ne_a_b29 (ninS ne_a_b42 nin0)))))) (Or.inr (slot_ne (Or.inr (hw _ mm127)) (Or.inr (hw _ mm155)) (by decide) (t := (.array .int)) (t' := .int) (by decide) (by decide))))
      have c450 := (Fld.other W445 (c377.keep K432 (ninS ne_a_b3 (ninS ne_a_b7 (ninS ne_a_b17 (ninS ne_a_b29 (ninS ne_a_b42 nin0)))))) (Or.inr (slot_ne (Or.inr (hw _ mm129)) (Or.inr (hw _ mm155)) (by decide) (t := (.array .int)) (t' := .int) (by decide) (by decide))))
      have c451 := (f432_1.other W445 (Ne.symm ne_a_b7))
      have c452 := (f432_3.other W445 (Ne.symm ne_a_b29))
      have c453 := (f432_4.other W445 (Ne.symm ne_a_b42))
      refine Done.fin (X445.returnOut hx Bd.returns (hb hby d16_301) hr) hrun hended ⟨_, _, rfl, ?_, ⟨_, rfl⟩, hW, hsame.mono (by decide) (by decide)⟩
      show QrmPT Z a su u ku cc0 cc1 cc2 kel0 kel1 kel2 va vb vc vd h0 n0 _ T445.heap _
      rw [e445]
      exact ⟨b7, _, [(.int (-1)), (.int va), (.int vd), (.int 0), (.int 0)], b29, _, [(.int 1), (.int 2), (.int (-1)), (.int 0), (.int 0)], b42, _, [(.int (-1)), (.int (-1)), (.int (-1)), (.int 0), (.int 0)], (1 : Int32), (2 : Int32), [((1 : Int32), va)], rfl, N445, KK445, c447, c448, c449, c450, c451, c452, c453, ⟨⟨rfl, ⟨by decide, by decide⟩, rfl, _, rfl, rfl⟩, Nat.le_of_ble_eq_true rfl, (own_o1 ho_va_vb ho_va_vc).1, rfl, (own_o1 ho_va_vb ho_va_vc).2, rfl, ⟨rfl, ⟨by decide, by decide⟩, rfl, _, rfl, rfl⟩, rfl, Or.inl rfl⟩⟩
    · have ho_va_vc := hk
      clear hk
      obtain ⟨cq454, kq454, q454a, q454b, q454c⟩ := isOf hZ e387 c382
      obtain ⟨_, _, ⟨T454, L454, k454, n454⟩, -, X454, ⟨Lc454, hQ454, l454, y454, z454⟩, st454⟩ := X387.virtualBack hx (y := (⟨"com/example/percurso/percurso/suite/PrefixTree", "child", "(II)I"⟩ : MethodName)) (z := (⟨"com/example/percurso/percurso/suite/PrefixTree", "child", "(II)I"⟩ : MethodName)) hown (mvT hZ (hw _ mm145)) (mvT hZ (hw _ mm146)) (notFace_of_selects (args := #[]) (mvT hZ (hw _ mm148))) (mvT hZ (hw _ mm148)) (mvT hZ (hw _ mm147)) (by decide) (backOf (W := 0) (rmCH_1 l Z a0 hw [] a (0 : Int32) vc b7 k7 [(.int (-1)), (.int va), (.int 0), (.int 0), (.int 0)] b29 k29 [(.int 1), (.int (-1)), (.int 0), (.int 0), (.int 0)] b42 k42 [(.int (-1)), (.int (-1)), (.int 0), (.int 0), (.int 0)] (1 : Int32) va h155 n0 Z155 c375 c376 c377 c378 c379 c380 ⟨by decide, by decide⟩ rfl ⟨by decide, by decide⟩ rfl rfl) hZ (hw _ mm149) (hw _ mm60) (by decide) (by decide)) q454a q454c (g := (mkF m 217 #[lR a, lR su, lJ 5, lS, lI 5, lI 2, lR b76, lR b89, lI 3, lI 0, lI 1, lI 2, lI 2, lI 0, lI vc, lI 1] [(.int vc), (.int 0), (.ref a)])) rfl (by rw [hml]; rfl) (Steps.refl _) (argsL := [(.int 0), (.int vc)]) (rest := []) (lenOf pd_1 rfl) rfl (by show 2 * 0 + _ ≤ _; exact Nat.le_of_eq rfl) (hb hby d16_217) (fun _ _ => ⟨rfl, e387, (by decide : 7 + 0 ≤ _), (by decide : 31 + 0 ≤ _)⟩)
      dsimp only [Pt.U, Pt.locs, Pt.cells, Pt.slots] at X454 l454 y454 z454 st454 hQ454
      rw [l454, y454, z454] at X454
      obtain ⟨hv454, N454q, e454⟩ := hQ454
      rw [show own_find [((1 : Int32), va)] vc = (-1 : Int32) from (own_find_gt ho_va_vc)] at hv454
      rw [hv454] at st454
      have N454 := Fr.app N387 N454q
      refine Ds (B := T454.setTop (mkF m 220 #[lR a, lR su, lJ 5, lS, lI 5, lI 2, lR b76, lR b89, lI 3, lI 0, lI 1, lI 2, lI 2, lI 0, lI vc, lI 1] [(.int (-1))])) (fun _ k => st454.trans k) ?_
      refine Ds (B := T454.setTop (mkF m 233 #[lR a, lR su, lJ 5, lS, lI 5, lI 3, lR b76, lR b89, lI 3, lI 0, lI 1, lI 2, lI 2, lI 0, lI vc, lI (-1)] [(.int 2)])) (fun _ k => XS.istore X454.here hx rfl (hb hby d16_220) rfl (l' := #[lR a, lR su, lJ 5, lS, lI 5, lI 2, lR b76, lR b89, lI 3, lI 0, lI 1, lI 2, lI 2, lI 0, lI vc, lI (-1)]) rfl (XS.iload X454.here hx rfl (hb hby d16_222) rfl (XS.iconst X454.here hx rfl (hb hby d16_224) (XS.icmpNo X454.here hx rfl (hb hby d16_225) rfl (teq (rfl : (-1 : Int32) = (-1 : Int32))).2 (XS.iload X454.here hx rfl (hb hby d16_228) rfl (XS.iinc X454.here hx rfl (hb hby d16_230) rfl (l' := #[lR a, lR su, lJ 5, lS, lI 5, lI 3, lR b76, lR b89, lI 3, lI 0, lI 1, lI 2, lI 2, lI 0, lI vc, lI (-1)]) rfl k)))))) ?_
      refine Ds (B := T454.setTop (mkF m 244 #[lR a, lR su, lJ 5, lS, lI 5, lI 3, lR b76, lR b89, lI 3, lI 0, lI 1, lI 2, lI 2, lI 0, lI vc, lI 2] [(.int 0), (.int 2), (.int vc), (.int 0), (.ref a)])) (fun _ k => XS.istore X454.here hx rfl (hb hby d16_233) rfl (l' := #[lR a, lR su, lJ 5, lS, lI 5, lI 3, lR b76, lR b89, lI 3, lI 0, lI 1, lI 2, lI 2, lI 0, lI vc, lI 2]) rfl (XS.aloadN X454.here hx rfl (hb hby d16_235) rfl rfl (XS.iload X454.here hx rfl (hb hby d16_236) rfl (XS.iload X454.here hx rfl (hb hby d16_238) rfl (XS.iload X454.here hx rfl (hb hby d16_240) rfl (XS.iload X454.here hx rfl (hb hby d16_242) rfl k)))))) ?_
      refine Ds (B := T454.setTop (mkF m 246 #[lR a, lR su, lJ 5, lS, lI 5, lI 3, lR b76, lR b89, lI 3, lI 0, lI 1, lI 2, lI 2, lI 0, lI vc, lI 2] [(.int 1), (.int 2), (.int vc), (.int 0), (.ref a)])) (fun _ k => XS.iconst X454.here hx rfl (hb hby d16_244) (XS.iadd X454.here hx rfl (hb hby d16_245) rfl k)) ?_
      have c455 := (Fld.other W155 (Fld.other W153 (c138.keep K142 (ninS ne_a_b3 (ninS ne_a_b7 (ninS ne_a_b17 (ninS ne_a_b29 (ninS ne_a_b42 nin0)))))) (Or.inl ne_a_b76)) (Or.inl ne_a_b89))
      have c456 := (Fld.other W155 (Fld.other W153 (c139.keep K142 (ninS ne_a_b3 (ninS ne_a_b7 (ninS ne_a_b17 (ninS ne_a_b29 (ninS ne_a_b42 nin0)))))) (Or.inl ne_a_b76)) (Or.inl ne_a_b89))
      have c457 := ((f142_0.other W153 ne_b3_b76).other W155 ne_b3_b89)
      have c458 := ((f142_2.other W153 ne_b17_b76).other W155 ne_b17_b89)
      obtain ⟨cq459, q459, q459'⟩ := c382.cell
      obtain ⟨_, _, ⟨T459, L459, k459, n459⟩, -, X459, ⟨Lc459, hQ459, l459, y459, z459⟩, st459⟩ := X454.privateBack hx (y := (⟨"com/example/percurso/percurso/suite/PrefixTree", "link", "(IIII)V"⟩ : MethodName)) hown (mvT hZ (hw _ mm150)) (mvT hZ (hw _ mm151)) (mvT hZ (own_selp (y := (⟨"com/example/percurso/percurso/suite/PrefixTree", "link", "(IIII)V"⟩ : MethodName)) (hw _ mm59) (hw _ mm152) (hw _ mm151) (by decide))) (Cond.privateMethod_at (mvP hZ (hw _ mm152) (args := #[]))) (mvT hZ (hw _ mm153)) (by decide) (backOf (W := 0) (rmLK_3 l Z a0 hw [] a vc b3 k3 b7 k7 b17 k17 b29 k29 b42 k42 (-1 : Int32) (0 : Int32) (0 : Int32) (0 : Int32) (0 : Int32) (-1 : Int32) va (0 : Int32) (0 : Int32) (0 : Int32) (0 : Int32) (1 : Int32) (0 : Int32) (0 : Int32) (0 : Int32) (-1 : Int32) (0 : Int32) (0 : Int32) (0 : Int32) (-1 : Int32) (0 : Int32) (0 : Int32) (0 : Int32) h155 n0 Z155 c455 c375 c456 c376 c377 c457 c378 c458 c379 c380 ge_b3 ge_b7 ge_b17 ge_b29 ge_b42 ne_b3_b7 ne_b3_b17 ne_b3_b29 ne_b3_b42 ne_b7_b17 ne_b7_b29 ne_b7_b42 ne_b17_b29 ne_b17_b42 ne_b29_b42 ne_a_b3 ne_a_b7 ne_a_b17 ne_a_b29 ne_a_b42) hZ (hw _ mm153) (hw _ mm60) (by decide) (by decide)) (g := (mkF m 246 #[lR a, lR su, lJ 5, lS, lI 5, lI 3, lR b76, lR b89, lI 3, lI 0, lI 1, lI 2, lI 2, lI 0, lI vc, lI 2] [(.int 1), (.int 2), (.int vc), (.int 0), (.ref a)])) rfl (by rw [hml]; rfl) (Steps.refl _) (a := a) (by rw [e454]; exact q459) q459' (argsL := [(.int 0), (.int vc), (.int 2), (.int 1)]) (rest := []) (lenOf pd_10 rfl) rfl (by show 2 * 0 + _ ≤ _; exact Nat.le_of_eq rfl) (hb hby d16_246) (fun _ _ => ⟨rfl, e454, (by decide : 7 + 0 ≤ _), (by decide : 31 + 0 ≤ _)⟩)
      dsimp only [Pt.U, Pt.locs, Pt.cells, Pt.slots] at X459 l459 y459 z459 st459 hQ459
      rw [l459, y459, z459] at X459
      have c460 := (Exa.wr W155 (Exa.wr W153 (c143.keep K142)))
      have c461 := (Exa.wr W155 (Exa.wr W153 (c144.keep K142)))
      have c462 := (Exa.wr W155 (Exa.wr W153 (c145.keep K142)))
      have c463 := (Exa.wr W155 (Exa.wr W153 (c146.keep K142)))
      have c464 := (Exa.wr W155 (Exa.wr W153 (c147.keep K142)))
      obtain ⟨hv459, N459q, K459, im459_0, im459_1⟩ := hQ459
      rw [hv459] at st459
      have N459 := Fr.app N454 N459q
      have Z459 : n0 ≤ T459.heap.size := Nat.le_trans Z155 K459.1
      have KK459 : Keep h0 T459.heap [a] := (KK155).trans K459 (allS (Or.inr sz_b3) (allS (Or.inr sz_b7) (allS (Or.inr sz_b17) (allS (Or.inr sz_b29) (allS (Or.inr sz_b42) all0)))))
      obtain ⟨f459_0, f459_1, f459_2, f459_3, f459_4⟩ := im459_0 (own_nlt ho_va_vc)
      refine Ds (B := T459.setTop (mkF m 249 #[lR a, lR su, lJ 5, lS, lI 5, lI 3, lR b76, lR b89, lI 3, lI 0, lI 1, lI 2, lI 2, lI 0, lI vc, lI 2] [])) (fun _ k => st459.trans k) ?_
      have c465 := (c455.keep K459 (ninS ne_a_b3 (ninS ne_a_b7 (ninS ne_a_b17 (ninS ne_a_b29 (ninS ne_a_b42 nin0))))))
      have c466 := (c375.keep K459 (ninS ne_a_b3 (ninS ne_a_b7 (ninS ne_a_b17 (ninS ne_a_b29 (ninS ne_a_b42 nin0))))))
      have c467 := (c456.keep K459 (ninS ne_a_b3 (ninS ne_a_b7 (ninS ne_a_b17 (ninS ne_a_b29 (ninS ne_a_b42 nin0))))))
      have c468 := (c376.keep K459 (ninS ne_a_b3 (ninS ne_a_b7 (ninS ne_a_b17 (ninS ne_a_b29 (ninS ne_a_b42 nin0))))))
      have c469 := (c377.keep K459 (ninS ne_a_b3 (ninS ne_a_b7 (ninS ne_a_b17 (ninS ne_a_b29 (ninS ne_a_b42 nin0))))))
      have c470 := ((Fld.other W155 (Fld.other W153 ((Fld.other W120 (Fld.other W113 (Fld.other W105 (Fld.ext E89 (Fld.ext E76 (Fld.other W70 (Fld.other W66 (Fld.other W62 (Fld.other W58 (Fld.other W55 (Fld.ext E42 (Fld.other W41 (Fld.ext E29 (Fld.other W28 (Fld.ext E17 (Fld.other W16 (Fld.ext E7 (Fld.other W6 (Fld.ext E3 F_size) (Or.inr (slot_ne (Or.inr (hw _ mm155)) (Or.inr (hw _ mm121)) (by decide) (t := .int) (t' := (.array .int)) (by decide) (by decide))))) (Or.inr (slot_ne (Or.inr (hw _ mm155)) (Or.inr (hw _ mm123)) (by decide) (t := .int) (t' := (.array .int)) (by decide) (by decide))))) (Or.inr (slot_ne (Or.inr (hw _ mm155)) (Or.inr (hw _ mm125)) (by decide) (t := .int) (t' := (.array .int)) (by decide) (by decide))))) (Or.inr (slot_ne (Or.inr (hw _ mm155)) (Or.inr (hw _ mm127)) (by decide) (t := .int) (t' := (.array .int)) (by decide) (by decide))))) (Or.inr (slot_ne (Or.inr (hw _ mm155)) (Or.inr (hw _ mm129)) (by decide) (t := .int) (t' := (.array .int)) (by decide) (by decide)))) (Or.inl ne_a_b3)) (Or.inl ne_a_b7)) (Or.inl ne_a_b29)) (Or.inl ne_a_b42)))) (Or.inl ne_a_b76)) (Or.inl ne_a_b76)) (Or.inl ne_a_b76)).keep K142 (ninS ne_a_b3 (ninS ne_a_b7 (ninS ne_a_b17 (ninS ne_a_b29 (ninS ne_a_b42 nin0)))))) (Or.inl ne_a_b76)) (Or.inl ne_a_b89)).keep K459 (ninS ne_a_b3 (ninS ne_a_b7 (ninS ne_a_b17 (ninS ne_a_b29 (ninS ne_a_b42 nin0))))))
      have c471 := (c382.keep K459)
      have c472 := (c164.keep K459)
      have c473 := (c160.keep K459 (ninS ne_su_b3 (ninS ne_su_b7 (ninS ne_su_b17 (ninS ne_su_b29 (ninS ne_su_b42 nin0))))))
      have c474 := (c161.keep K459 (ninS ne_u_b3 (ninS ne_u_b7 (ninS ne_u_b17 (ninS ne_u_b29 (ninS ne_u_b42 nin0))))))
      have c475 := (((c150.other W153 ne_cc0_b76).other W155 ne_cc0_b89).keep K459 (ninS ne_cc0_b3 (ninS ne_cc0_b7 (ninS ne_cc0_b17 (ninS ne_cc0_b29 (ninS ne_cc0_b42 nin0))))))
      have c476 := (c162.keep K459 (ninS ne_cc1_b3 (ninS ne_cc1_b7 (ninS ne_cc1_b17 (ninS ne_cc1_b29 (ninS ne_cc1_b42 nin0))))))
      have c477 := (c386.keep K459 (ninS ne_cc2_b3 (ninS ne_cc2_b7 (ninS ne_cc2_b17 (ninS ne_cc2_b29 (ninS ne_cc2_b42 nin0))))))
      have c478 := (c460.keep K459)
      have c479 := (c461.keep K459)
      have c480 := (c462.keep K459)
      have c481 := (c463.keep K459)
      have c482 := (c464.keep K459)
      have c483 := (c158.keep K459 (ninS (Ne.symm ne_b3_b76) (ninS (Ne.symm ne_b7_b76) (ninS (Ne.symm ne_b17_b76) (ninS (Ne.symm ne_b29_b76) (ninS (Ne.symm ne_b42_b76) nin0))))))
      have c484 := ((Exa.wr W155 (Exa.wr W153 ((Exa.wr W120 (Exa.wr W113 (Exa.wr W105 (Exa.ext E89 Ex76)))).keep K142))).keep K459)
      have c485 := (V155.keep K459 (ninS (Ne.symm ne_b3_b89) (ninS (Ne.symm ne_b7_b89) (ninS (Ne.symm ne_b17_b89) (ninS (Ne.symm ne_b29_b89) (ninS (Ne.symm ne_b42_b89) nin0))))))
      have c486 := ((Exa.wr W155 (Exa.wr W153 ((Exa.wr W120 (Exa.wr W113 (Exa.wr W105 Ex89))).keep K142))).keep K459)
      exact jJ2 vc (2 : Int32) (-1 : Int32) (1 : Int32) [((2 : Int32), vc), ((1 : Int32), va)] (2 : Int32) T459 T459.heap _ X459 rfl N459 Z459 KK459 c465 c466 c467 c468 c469 c470 c471 c472 c473 c474 c475 c476 c477 c478 c479 c480 c481 c482 c483 c484 c485 c486 f459_0 f459_1 f459_2 f459_3 f459_4  ⟨⟨rfl, ⟨by decide, by decide⟩, rfl, _, rfl, ⟨rfl, ⟨by decide, by decide⟩, rfl, _, rfl, rfl⟩⟩, Nat.le_of_ble_eq_true rfl, (own_o3 ho_va_vb ho_va_vc).1, rfl, (own_o3 ho_va_vb ho_va_vc).2, rfl, ⟨rfl, ⟨by decide, by decide⟩, rfl, _, rfl, rfl⟩, rfl, Or.inr ⟨rfl, Or.inl rfl⟩⟩
  · have ho_va_vb := hk
    clear hk
    have c487 := (Fld.other W155 (Fld.other W153 (c130.keep K142 (ninS ne_a_b3 (ninS ne_a_b7 (ninS ne_a_b17 (ninS ne_a_b29 (ninS ne_a_b42 nin0)))))) (Or.inl ne_a_b76)) (Or.inl ne_a_b89))
    have c488 := (Fld.other W155 (Fld.other W153 (c131.keep K142 (ninS ne_a_b3 (ninS ne_a_b7 (ninS ne_a_b17 (ninS ne_a_b29 (ninS ne_a_b42 nin0)))))) (Or.inl ne_a_b76)) (Or.inl ne_a_b89))
    have c489 := (Fld.other W155 (Fld.other W153 (c132.keep K142 (ninS ne_a_b3 (ninS ne_a_b7 (ninS ne_a_b17 (ninS ne_a_b29 (ninS ne_a_b42 nin0)))))) (Or.inl ne_a_b76)) (Or.inl ne_a_b89))
    have c490 := ((f142_1.other W153 ne_b7_b76).other W155 ne_b7_b89)
    have c491 := ((f142_3.other W153 ne_b29_b76).other W155 ne_b29_b89)
    have c492 := ((f142_4.other W153 ne_b42_b76).other W155 ne_b42_b89)
    have c494 := (Exa.wr W155 (Exa.wr W153 (c137.keep K142)))
    obtain ⟨cq493, kq493, q493a, q493b, q493c⟩ := isOf hZ e163 c494
    obtain ⟨_, _, ⟨T493, L493, k493, n493⟩, -, X493, ⟨Lc493, hQ493, l493, y493, z493⟩, st493⟩ := X163.virtualBack hx (y := (⟨"com/example/percurso/percurso/suite/PrefixTree", "child", "(II)I"⟩ : MethodName)) (z := (⟨"com/example/percurso/percurso/suite/PrefixTree", "child", "(II)I"⟩ : MethodName)) hown (mvT hZ (hw _ mm145)) (mvT hZ (hw _ mm146)) (notFace_of_selects (args := #[]) (mvT hZ (hw _ mm148))) (mvT hZ (hw _ mm148)) (mvT hZ (hw _ mm147)) (by decide) (backOf (W := 0) (rmCH_1 l Z a0 hw [] a (0 : Int32) vb b7 k7 [(.int (-1)), (.int va), (.int 0), (.int 0), (.int 0)] b29 k29 [(.int 1), (.int (-1)), (.int 0), (.int 0), (.int 0)] b42 k42 [(.int (-1)), (.int (-1)), (.int 0), (.int 0), (.int 0)] (1 : Int32) va h155 n0 Z155 c487 c488 c489 c490 c491 c492 ⟨by decide, by decide⟩ rfl ⟨by decide, by decide⟩ rfl rfl) hZ (hw _ mm149) (hw _ mm60) (by decide) (by decide)) q493a q493c (g := (mkF m 217 #[lR a, lR su, lJ 5, lS, lI 5, lI 2, lR b76, lR b89, lI 3, lI 0, lI 1, lI 1, lI 1, lI 0, lI vb, lI 1] [(.int vb), (.int 0), (.ref a)])) rfl (by rw [hml]; rfl) (Steps.refl _) (argsL := [(.int 0), (.int vb)]) (rest := []) (lenOf pd_1 rfl) rfl (by show 2 * 0 + _ ≤ _; exact Nat.le_of_eq rfl) (hb hby d16_217) (fun _ _ => ⟨rfl, e163, (by decide : 7 + 0 ≤ _), (by decide : 31 + 0 ≤ _)⟩)
    dsimp only [Pt.U, Pt.locs, Pt.cells, Pt.slots] at X493 l493 y493 z493 st493 hQ493
    rw [l493, y493, z493] at X493
    obtain ⟨hv493, N493q, e493⟩ := hQ493
    rw [show own_find [((1 : Int32), va)] vb = (-1 : Int32) from (own_find_gt ho_va_vb)] at hv493
    rw [hv493] at st493
    have N493 := Fr.app N163 N493q
    refine Ds (B := T493.setTop (mkF m 220 #[lR a, lR su, lJ 5, lS, lI 5, lI 2, lR b76, lR b89, lI 3, lI 0, lI 1, lI 1, lI 1, lI 0, lI vb, lI 1] [(.int (-1))])) (fun _ k => st493.trans k) ?_
    refine Ds (B := T493.setTop (mkF m 233 #[lR a, lR su, lJ 5, lS, lI 5, lI 3, lR b76, lR b89, lI 3, lI 0, lI 1, lI 1, lI 1, lI 0, lI vb, lI (-1)] [(.int 2)])) (fun _ k => XS.istore X493.here hx rfl (hb hby d16_220) rfl (l' := #[lR a, lR su, lJ 5, lS, lI 5, lI 2, lR b76, lR b89, lI 3, lI 0, lI 1, lI 1, lI 1, lI 0, lI vb, lI (-1)]) rfl (XS.iload X493.here hx rfl (hb hby d16_222) rfl (XS.iconst X493.here hx rfl (hb hby d16_224) (XS.icmpNo X493.here hx rfl (hb hby d16_225) rfl (teq (rfl : (-1 : Int32) = (-1 : Int32))).2 (XS.iload X493.here hx rfl (hb hby d16_228) rfl (XS.iinc X493.here hx rfl (hb hby d16_230) rfl (l' := #[lR a, lR su, lJ 5, lS, lI 5, lI 3, lR b76, lR b89, lI 3, lI 0, lI 1, lI 1, lI 1, lI 0, lI vb, lI (-1)]) rfl k)))))) ?_
    refine Ds (B := T493.setTop (mkF m 244 #[lR a, lR su, lJ 5, lS, lI 5, lI 3, lR b76, lR b89, lI 3, lI 0, lI 1, lI 1, lI 1, lI 0, lI vb, lI 2] [(.int 0), (.int 2), (.int vb), (.int 0), (.ref a)])) (fun _ k => XS.istore X493.here hx rfl (hb hby d16_233) rfl (l' := #[lR a, lR su, lJ 5, lS, lI 5, lI 3, lR b76, lR b89, lI 3, lI 0, lI 1, lI 1, lI 1, lI 0, lI vb, lI 2]) rfl (XS.aloadN X493.here hx rfl (hb hby d16_235) rfl rfl (XS.iload X493.here hx rfl (hb hby d16_236) rfl (XS.iload X493.here hx rfl (hb hby d16_238) rfl (XS.iload X493.here hx rfl (hb hby d16_240) rfl (XS.iload X493.here hx rfl (hb hby d16_242) rfl k)))))) ?_
    refine Ds (B := T493.setTop (mkF m 246 #[lR a, lR su, lJ 5, lS, lI 5, lI 3, lR b76, lR b89, lI 3, lI 0, lI 1, lI 1, lI 1, lI 0, lI vb, lI 2] [(.int 1), (.int 2), (.int vb), (.int 0), (.ref a)])) (fun _ k => XS.iconst X493.here hx rfl (hb hby d16_244) (XS.iadd X493.here hx rfl (hb hby d16_245) rfl k)) ?_
    have c495 := (Fld.other W155 (Fld.other W153 (c138.keep K142 (ninS ne_a_b3 (ninS ne_a_b7 (ninS ne_a_b17 (ninS ne_a_b29 (ninS ne_a_b42 nin0)))))) (Or.inl ne_a_b76)) (Or.inl ne_a_b89))
    have c496 := (Fld.other W155 (Fld.other W153 (c139.keep K142 (ninS ne_a_b3 (ninS ne_a_b7 (ninS ne_a_b17 (ninS ne_a_b29 (ninS ne_a_b42 nin0)))))) (Or.inl ne_a_b76)) (Or.inl ne_a_b89))
    have c497 := ((f142_0.other W153 ne_b3_b76).other W155 ne_b3_b89)
    have c498 := ((f142_2.other W153 ne_b17_b76).other W155 ne_b17_b89)
    obtain ⟨cq499, q499, q499'⟩ := c494.cell
    obtain ⟨_, _, ⟨T499, L499, k499, n499⟩, -, X499, ⟨Lc499, hQ499, l499, y499, z499⟩, st499⟩ := X493.privateBack hx (y := (⟨"com/example/percurso/percurso/suite/PrefixTree", "link", "(IIII)V"⟩ : MethodName)) hown (mvT hZ (hw _ mm150)) (mvT hZ (hw _ mm151)) (mvT hZ (own_selp (y := (⟨"com/example/percurso/percurso/suite/PrefixTree", "link", "(IIII)V"⟩ : MethodName)) (hw _ mm59) (hw _ mm152) (hw _ mm151) (by decide))) (Cond.privateMethod_at (mvP hZ (hw _ mm152) (args := #[]))) (mvT hZ (hw _ mm153)) (by decide) (backOf (W := 0) (rmLK_3 l Z a0 hw [] a vb b3 k3 b7 k7 b17 k17 b29 k29 b42 k42 (-1 : Int32) (0 : Int32) (0 : Int32) (0 : Int32) (0 : Int32) (-1 : Int32) va (0 : Int32) (0 : Int32) (0 : Int32) (0 : Int32) (1 : Int32) (0 : Int32) (0 : Int32) (0 : Int32) (-1 : Int32) (0 : Int32) (0 : Int32) (0 : Int32) (-1 : Int32) (0 : Int32) (0 : Int32) (0 : Int32) h155 n0 Z155 c495 c487 c496 c488 c489 c497 c490 c498 c491 c492 ge_b3 ge_b7 ge_b17 ge_b29 ge_b42 ne_b3_b7 ne_b3_b17 ne_b3_b29 ne_b3_b42 ne_b7_b17 ne_b7_b29 ne_b7_b42 ne_b17_b29 ne_b17_b42 ne_b29_b42 ne_a_b3 ne_a_b7 ne_a_b17 ne_a_b29 ne_a_b42) hZ (hw _ mm153) (hw _ mm60) (by decide) (by decide)) (g := (mkF m 246 #[lR a, lR su, lJ 5, lS, lI 5, lI 3, lR b76, lR b89, lI 3, lI 0, lI 1, lI 1, lI 1, lI 0, lI vb, lI 2] [(.int 1), (.int 2), (.int vb), (.int 0), (.ref a)])) rfl (by rw [hml]; rfl) (Steps.refl _) (a := a) (by rw [e493]; exact q499) q499' (argsL := [(.int 0), (.int vb), (.int 2), (.int 1)]) (rest := []) (lenOf pd_10 rfl) rfl (by show 2 * 0 + _ ≤ _; exact Nat.le_of_eq rfl) (hb hby d16_246) (fun _ _ => ⟨rfl, e493, (by decide : 7 + 0 ≤ _), (by decide : 31 + 0 ≤ _)⟩)
    dsimp only [Pt.U, Pt.locs, Pt.cells, Pt.slots] at X499 l499 y499 z499 st499 hQ499
    rw [l499, y499, z499] at X499
    have c500 := (Exa.wr W155 (Exa.wr W153 (c143.keep K142)))
    have c501 := (Exa.wr W155 (Exa.wr W153 (c144.keep K142)))
    have c502 := (Exa.wr W155 (Exa.wr W153 (c145.keep K142)))
    have c503 := (Exa.wr W155 (Exa.wr W153 (c146.keep K142)))
    have c504 := (Exa.wr W155 (Exa.wr W153 (c147.keep K142)))
    obtain ⟨hv499, N499q, K499, im499_0, im499_1⟩ := hQ499
    rw [hv499] at st499
    have N499 := Fr.app N493 N499q
    have Z499 : n0 ≤ T499.heap.size := Nat.le_trans Z155 K499.1
    have KK499 : Keep h0 T499.heap [a] := (KK155).trans K499 (allS (Or.inr sz_b3) (allS (Or.inr sz_b7) (allS (Or.inr sz_b17) (allS (Or.inr sz_b29) (allS (Or.inr sz_b42) all0)))))
    obtain ⟨f499_0, f499_1, f499_2, f499_3, f499_4⟩ := im499_0 (own_nlt ho_va_vb)
    refine Ds (B := T499.setTop (mkF m 249 #[lR a, lR su, lJ 5, lS, lI 5, lI 3, lR b76, lR b89, lI 3, lI 0, lI 1, lI 1, lI 1, lI 0, lI vb, lI 2] [])) (fun _ k => st499.trans k) ?_
    refine Ds (B := T499.setTop (mkF m 252 #[lR a, lR su, lJ 5, lS, lI 5, lI 3, lR b76, lR b89, lI 3, lI 0, lI 1, lI 1, lI 1, lI 0, lI vb, lI 2] [(.int 1), (.ref su)])) (fun _ k => XS.aloadN X499.here hx rfl (hb hby d16_249) rfl rfl (XS.iload X499.here hx rfl (hb hby d16_250) rfl k)) ?_
    have c505 := (c160.keep K499 (ninS ne_su_b3 (ninS ne_su_b7 (ninS ne_su_b17 (ninS ne_su_b29 (ninS ne_su_b42 nin0))))))
    have c506 := (c161.keep K499 (ninS ne_u_b3 (ninS ne_u_b7 (ninS ne_u_b17 (ninS ne_u_b29 (ninS ne_u_b42 nin0))))))
    have c507 := (c162.keep K499 (ninS ne_cc1_b3 (ninS ne_cc1_b7 (ninS ne_cc1_b17 (ninS ne_cc1_b29 (ninS ne_cc1_b42 nin0))))))
    have c509 := (c164.keep K499)
    obtain ⟨cq508, kq508, q508a, q508b, q508c⟩ := isOf hZ rfl c509
    obtain ⟨_, _, ⟨T508, L508, k508, n508⟩, -, X508, ⟨Lc508, hQ508, l508, y508, z508⟩, st508⟩ := X499.virtualBack hx (y := (⟨"com/example/percurso/percurso/suite/Suite", "length", "(I)I"⟩ : MethodName)) (z := (⟨"com/example/percurso/percurso/suite/Suite", "length", "(I)I"⟩ : MethodName)) hown (mvT hZ (hw _ mm135)) (mvT hZ (hw _ mm136)) (notFace_of_selects (args := #[]) (mvT hZ (hw _ mm138))) (mvT hZ (hw _ mm138)) (mvT hZ (hw _ mm137)) (by decide) (backOf (W := 0) (rm19 l Z a0 hw [] su (1 : Int32) u ku [(.ref cc0), (.ref cc1), (.ref cc2)] cc1 kel1 (1 : Int32) [(.int vb)] T499.heap n0 Z499 c505 c506 ⟨by decide, by decide⟩ rfl c507) hZ (hw _ mm139) (hw _ mm63) (by decide) (by decide)) q508a q508c (g := (mkF m 252 #[lR a, lR su, lJ 5, lS, lI 5, lI 3, lR b76, lR b89, lI 3, lI 0, lI 1, lI 1, lI 1, lI 0, lI vb, lI 2] [(.int 1), (.ref su)])) rfl (by rw [hml]; rfl) (Steps.refl _) (argsL := [(.int 1)]) (rest := []) (lenOf pd_9 rfl) rfl (by show 2 * 0 + _ ≤ _; exact Nat.le_of_eq rfl) (hb hby d16_252) (fun _ _ => ⟨rfl, rfl, (by decide : 7 + 0 ≤ _), (by decide : 31 + 0 ≤ _)⟩)
    dsimp only [Pt.U, Pt.locs, Pt.cells, Pt.slots] at X508 l508 y508 z508 st508 hQ508
    rw [l508, y508, z508] at X508
    obtain ⟨hv508, N508q, e508⟩ := hQ508
    rw [hv508] at st508
    have N508 := Fr.app N499 N508q
    refine Ds (B := T508.setTop (mkF m 255 #[lR a, lR su, lJ 5, lS, lI 5, lI 3, lR b76, lR b89, lI 3, lI 0, lI 1, lI 1, lI 1, lI 0, lI vb, lI 2] [(.int 1)])) (fun _ k => st508.trans k) ?_
    refine Ds (B := T508.setTop (mkF m 181 #[lR a, lR su, lJ 5, lS, lI 5, lI 3, lR b76, lR b89, lI 3, lI 0, lI 1, lI 2, lI 1, lI 0, lI vb, lI 2] [])) (fun _ k => XS.iload X508.here hx rfl (hb hby d16_255) rfl (XS.iconst X508.here hx rfl (hb hby d16_257) (XS.iadd X508.here hx rfl (hb hby d16_258) rfl (XS.icmpYes X508.here hx rfl (pc0 := 259) (pc' := 279) rfl (hb hby d16_259) rfl (flt (by decide : ¬ ((1 : Int32) < (1 : Int32)))).2.2.2 (by decide) (by decide) (XS.iinc X508.here hx rfl (hb hby d16_279) rfl (l' := #[lR a, lR su, lJ 5, lS, lI 5, lI 3, lR b76, lR b89, lI 3, lI 0, lI 1, lI 2, lI 1, lI 0, lI vb, lI 2]) rfl (XS.goto X508.here hx rfl (pc0 := 282) (pc' := 181) rfl (hb hby d16_282) (by decide) (by decide) k)))))) ?_
    refine Ds (B := T508.setTop (mkF m 192 #[lR a, lR su, lJ 5, lS, lI 5, lI 3, lR b76, lR b89, lI 3, lI 0, lI 1, lI 2, lI 1, lI 0, lI vb, lI 2] [(.int 2), (.ref b76)])) (fun _ k => XS.iload X508.here hx rfl (hb hby d16_181) rfl (XS.iload X508.here hx rfl (hb hby d16_183) rfl (XS.icmpNo X508.here hx rfl (hb hby d16_185) rfl (tlt (by decide : (2 : Int32) < (3 : Int32))).2.1 (XS.aload X508.here hx rfl (hb hby d16_188) rfl rfl (XS.iload X508.here hx rfl (hb hby d16_190) rfl k))))) ?_
    have c511 := (c158.keep K499 (ninS (Ne.symm ne_b3_b76) (ninS (Ne.symm ne_b7_b76) (ninS (Ne.symm ne_b17_b76) (ninS (Ne.symm ne_b29_b76) (ninS (Ne.symm ne_b42_b76) nin0))))))
    obtain ⟨cl510, Ar510, q510, S510, M510, H510, G510⟩ := id c511
    have hin510 : ¬ ((2 : Int32) < 0 ∨ cl510.slots.size ≤ ((2 : Int32)).toNatClampNeg) := inb_of S510 ⟨by decide, by decide⟩
    have hat510 : cl510.slots[((2 : Int32)).toNatClampNeg]? = some (.int 2) := Has.at H510 hin510 rfl
    refine Ds (B := T508.setTop (mkF m 193 #[lR a, lR su, lJ 5, lS, lI 5, lI 3, lR b76, lR b89, lI 3, lI 0, lI 1, lI 2, lI 1, lI 0, lI vb, lI 2] [(.int 2)])) (fun _ k => X508.iaload hx (j := (2 : Int32)) (v := (.int 2)) (by rw [e508]; exact Ar510.1) (State.isArrayOf_alike hZ.alike Ar510.2.1) Ar510.2.2 hin510 hat510 (g := (mkF m 192 #[lR a, lR su, lJ 5, lS, lI 5, lI 3, lR b76, lR b89, lI 3, lI 0, lI 1, lI 2, lI 1, lI 0, lI vb, lI 2] [(.int 2), (.ref b76)])) rfl rfl (hb hby d16_192) _ k) ?_
    refine Ds (B := T508.setTop (mkF m 199 #[lR a, lR su, lJ 5, lS, lI 5, lI 3, lR b76, lR b89, lI 3, lI 0, lI 1, lI 2, lI 2, lI 0, lI vb, lI 2] [(.int 2), (.ref b89)])) (fun _ k => XS.istore X508.here hx rfl (hb hby d16_193) rfl (l' := #[lR a, lR su, lJ 5, lS, lI 5, lI 3, lR b76, lR b89, lI 3, lI 0, lI 1, lI 2, lI 2, lI 0, lI vb, lI 2]) rfl (XS.aload X508.here hx rfl (hb hby d16_195) rfl rfl (XS.iload X508.here hx rfl (hb hby d16_197) rfl k))) ?_
    have c513 := (V155.keep K499 (ninS (Ne.symm ne_b3_b89) (ninS (Ne.symm ne_b7_b89) (ninS (Ne.symm ne_b17_b89) (ninS (Ne.symm ne_b29_b89) (ninS (Ne.symm ne_b42_b89) nin0))))))
    obtain ⟨cl512, Ar512, q512, S512, M512, H512, G512⟩ := id c513
    have hin512 : ¬ ((2 : Int32) < 0 ∨ cl512.slots.size ≤ ((2 : Int32)).toNatClampNeg) := inb_of S512 ⟨by decide, by decide⟩
    have hat512 : cl512.slots[((2 : Int32)).toNatClampNeg]? = some (.int 0) := Has.at H512 hin512 rfl
    refine Ds (B := T508.setTop (mkF m 200 #[lR a, lR su, lJ 5, lS, lI 5, lI 3, lR b76, lR b89, lI 3, lI 0, lI 1, lI 2, lI 2, lI 0, lI vb, lI 2] [(.int 0)])) (fun _ k => X508.iaload hx (j := (2 : Int32)) (v := (.int 0)) (by rw [e508]; exact Ar512.1) (State.isArrayOf_alike hZ.alike Ar512.2.1) Ar512.2.2 hin512 hat512 (g := (mkF m 199 #[lR a, lR su, lJ 5, lS, lI 5, lI 3, lR b76, lR b89, lI 3, lI 0, lI 1, lI 2, lI 2, lI 0, lI vb, lI 2] [(.int 2), (.ref b89)])) rfl rfl (hb hby d16_199) _ k) ?_
    refine Ds (B := T508.setTop (mkF m 207 #[lR a, lR su, lJ 5, lS, lI 5, lI 3, lR b76, lR b89, lI 3, lI 0, lI 1, lI 2, lI 2, lI 0, lI vb, lI 2] [(.int 0), (.int 2), (.ref su)])) (fun _ k => XS.istore X508.here hx rfl (hb hby d16_200) rfl (l' := #[lR a, lR su, lJ 5, lS, lI 5, lI 3, lR b76, lR b89, lI 3, lI 0, lI 1, lI 2, lI 2, lI 0, lI vb, lI 2]) rfl (XS.aloadN X508.here hx rfl (hb hby d16_202) rfl rfl (XS.iload X508.here hx rfl (hb hby d16_203) rfl (XS.iload X508.here hx rfl (hb hby d16_205) rfl k)))) ?_
    have c514 := (((((c118.other W120 ne_cc2_b76).keep K142 (ninS ne_cc2_b3 (ninS ne_cc2_b7 (ninS ne_cc2_b17 (ninS ne_cc2_b29 (ninS ne_cc2_b42 nin0)))))).other W153 ne_cc2_b76).other W155 ne_cc2_b89).keep K499 (ninS ne_cc2_b3 (ninS ne_cc2_b7 (ninS ne_cc2_b17 (ninS ne_cc2_b29 (ninS ne_cc2_b42 nin0))))))
    obtain ⟨cq515, kq515, q515a, q515b, q515c⟩ := isOf hZ e508 c509
    obtain ⟨_, _, ⟨T515, L515, k515, n515⟩, -, X515, ⟨Lc515, hQ515, l515, y515, z515⟩, st515⟩ := X508.virtualBack hx (y := (⟨"com/example/percurso/percurso/suite/Suite", "input", "(II)I"⟩ : MethodName)) (z := (⟨"com/example/percurso/percurso/suite/Suite", "input", "(II)I"⟩ : MethodName)) hown (mvT hZ (hw _ mm140)) (mvT hZ (hw _ mm141)) (notFace_of_selects (args := #[]) (mvT hZ (hw _ mm143))) (mvT hZ (hw _ mm143)) (mvT hZ (hw _ mm142)) (by decide) (backOf (W := 0) (rm20 l Z a0 hw [] su (2 : Int32) (0 : Int32) u ku [(.ref cc0), (.ref cc1), (.ref cc2)] cc2 kel2 (1 : Int32) [(.int vc)] vc T499.heap n0 Z499 c505 c506 ⟨by decide, by decide⟩ rfl c514 ⟨by decide, by decide⟩ rfl) hZ (hw _ mm144) (hw _ mm63) (by decide) (by decide)) q515a q515c (g := (mkF m 207 #[lR a, lR su, lJ 5, lS, lI 5, lI 3, lR b76, lR b89, lI 3, lI 0, lI 1, lI 2, lI 2, lI 0, lI vb, lI 2] [(.int 0), (.int 2), (.ref su)])) rfl (by rw [hml]; rfl) (Steps.refl _) (argsL := [(.int 2), (.int 0)]) (rest := []) (lenOf pd_1 rfl) rfl (by show 2 * 0 + _ ≤ _; exact Nat.le_of_eq rfl) (hb hby d16_207) (fun _ _ => ⟨rfl, e508, (by decide : 7 + 0 ≤ _), (by decide : 31 + 0 ≤ _)⟩)
    dsimp only [Pt.U, Pt.locs, Pt.cells, Pt.slots] at X515 l515 y515 z515 st515 hQ515
    rw [l515, y515, z515] at X515
    obtain ⟨hv515, N515q, e515⟩ := hQ515
    rw [hv515] at st515
    have N515 := Fr.app N508 N515q
    refine Ds (B := T515.setTop (mkF m 210 #[lR a, lR su, lJ 5, lS, lI 5, lI 3, lR b76, lR b89, lI 3, lI 0, lI 1, lI 2, lI 2, lI 0, lI vb, lI 2] [(.int vc)])) (fun _ k => st515.trans k) ?_
    refine Ds (B := T515.setTop (mkF m 217 #[lR a, lR su, lJ 5, lS, lI 5, lI 3, lR b76, lR b89, lI 3, lI 0, lI 1, lI 2, lI 2, lI 0, lI vc, lI 2] [(.int vc), (.int 0), (.ref a)])) (fun _ k => XS.istore X515.here hx rfl (hb hby d16_210) rfl (l' := #[lR a, lR su, lJ 5, lS, lI 5, lI 3, lR b76, lR b89, lI 3, lI 0, lI 1, lI 2, lI 2, lI 0, lI vc, lI 2]) rfl (XS.aloadN X515.here hx rfl (hb hby d16_212) rfl rfl (XS.iload X515.here hx rfl (hb hby d16_213) rfl (XS.iload X515.here hx rfl (hb hby d16_215) rfl k)))) ?_
    rcases own_tri vb vc with hk | hk | hk
    · have ho_vb_vc := hk
      clear hk
      rcases own_tri va vc with hk | hk | hk
      · have ho_va_vc := hk
        clear hk
        have c516 := (c487.keep K499 (ninS ne_a_b3 (ninS ne_a_b7 (ninS ne_a_b17 (ninS ne_a_b29 (ninS ne_a_b42 nin0))))))
        have c517 := (c488.keep K499 (ninS ne_a_b3 (ninS ne_a_b7 (ninS ne_a_b17 (ninS ne_a_b29 (ninS ne_a_b42 nin0))))))
        have c518 := (c489.keep K499 (ninS ne_a_b3 (ninS ne_a_b7 (ninS ne_a_b17 (ninS ne_a_b29 (ninS ne_a_b42 nin0))))))
        have c520 := (c494.keep K499)
        obtain ⟨cq519, kq519, q519a, q519b, q519c⟩ := isOf hZ e515 c520
        obtain ⟨_, _, ⟨T519, L519, k519, n519⟩, -, X519, ⟨Lc519, hQ519, l519, y519, z519⟩, st519⟩ := X515.virtualBack hx (y := (⟨"com/example/percurso/percurso/suite/PrefixTree", "child", "(II)I"⟩ : MethodName)) (z := (⟨"com/example/percurso/percurso/suite/PrefixTree", "child", "(II)I"⟩ : MethodName)) hown (mvT hZ (hw _ mm145)) (mvT hZ (hw _ mm146)) (notFace_of_selects (args := #[]) (mvT hZ (hw _ mm148))) (mvT hZ (hw _ mm148)) (mvT hZ (hw _ mm147)) (by decide) (backOf (W := 0) (rmCH_2 l Z a0 hw [] a (0 : Int32) vc b7 k7 [(.int (-1)), (.int va), (.int vb), (.int 0), (.int 0)] b29 k29 [(.int 2), (.int (-1)), (.int (-1)), (.int 0), (.int 0)] b42 k42 [(.int (-1)), (.int (-1)), (.int 1), (.int 0), (.int 0)] (2 : Int32) (1 : Int32) vb va T499.heap n0 Z499 c516 c517 c518 f499_1 f499_3 f499_4 ⟨by decide, by decide⟩ rfl ⟨by decide, by decide⟩ rfl rfl ⟨by decide, by decide⟩ rfl rfl) hZ (hw _ mm149) (hw _ mm60) (by decide) (by decide)) q519a q519c (g := (mkF m 217 #[lR a, lR su, lJ 5, lS, lI 5, lI 3, lR b76, lR b89, lI 3, lI 0, lI 1, lI 2, lI 2, lI 0, lI vc, lI 2] [(.int vc), (.int 0), (.ref a)])) rfl (by rw [hml]; rfl) (Steps.refl _) (argsL := [(.int 0), (.int vc)]) (rest := []) (lenOf pd_1 rfl) rfl (by show 2 * 0 + _ ≤ _; exact Nat.le_of_eq rfl) (hb hby d16_217) (fun _ _ => ⟨rfl, e515, (by decide : 7 + 0 ≤ _), (by decide : 31 + 0 ≤ _)⟩)
        dsimp only [Pt.U, Pt.locs, Pt.cells, Pt.slots] at X519 l519 y519 z519 st519 hQ519
        rw [l519, y519, z519] at X519
        obtain ⟨hv519, N519q, e519⟩ := hQ519
        rw [show own_find [((2 : Int32), vb), ((1 : Int32), va)] vc = (-1 : Int32) from (own_find_lt ho_vb_vc (own_find_lt ho_va_vc rfl))] at hv519
        rw [hv519] at st519
        have N519 := Fr.app N515 N519q
        refine Ds (B := T519.setTop (mkF m 220 #[lR a, lR su, lJ 5, lS, lI 5, lI 3, lR b76, lR b89, lI 3, lI 0, lI 1, lI 2, lI 2, lI 0, lI vc, lI 2] [(.int (-1))])) (fun _ k => st519.trans k) ?_
        refine Ds (B := T519.setTop (mkF m 233 #[lR a, lR su, lJ 5, lS, lI 5, lI 4, lR b76, lR b89, lI 3, lI 0, lI 1, lI 2, lI 2, lI 0, lI vc, lI (-1)] [(.int 3)])) (fun _ k => XS.istore X519.here hx rfl (hb hby d16_220) rfl (l' := #[lR a, lR su, lJ 5, lS, lI 5, lI 3, lR b76, lR b89, lI 3, lI 0, lI 1, lI 2, lI 2, lI 0, lI vc, lI (-1)]) rfl (XS.iload X519.here hx rfl (hb hby d16_222) rfl (XS.iconst X519.here hx rfl (hb hby d16_224) (XS.icmpNo X519.here hx rfl (hb hby d16_225) rfl (teq (rfl : (-1 : Int32) = (-1 : Int32))).2 (XS.iload X519.here hx rfl (hb hby d16_228) rfl (XS.iinc X519.here hx rfl (hb hby d16_230) rfl (l' := #[lR a, lR su, lJ 5, lS, lI 5, lI 4, lR b76, lR b89, lI 3, lI 0, lI 1, lI 2, lI 2, lI 0, lI vc, lI (-1)]) rfl k)))))) ?_
        refine Ds (B := T519.setTop (mkF m 244 #[lR a, lR su, lJ 5, lS, lI 5, lI 4, lR b76, lR b89, lI 3, lI 0, lI 1, lI 2, lI 2, lI 0, lI vc, lI 3] [(.int 0), (.int 3), (.int vc), (.int 0), (.ref a)])) (fun _ k => XS.istore X519.here hx rfl (hb hby d16_233) rfl (l' := #[lR a, lR su, lJ 5, lS, lI 5, lI 4, lR b76, lR b89, lI 3, lI 0, lI 1, lI 2, lI 2, lI 0, lI vc, lI 3]) rfl (XS.aloadN X519.here hx rfl (hb hby d16_235) rfl rfl (XS.iload X519.here hx rfl (hb hby d16_236) rfl (XS.iload X519.here hx rfl (hb hby d16_238) rfl (XS.iload X519.here hx rfl (hb hby d16_240) rfl (XS.iload X519.here hx rfl (hb hby d16_242) rfl k)))))) ?_
        refine Ds (B := T519.setTop (mkF m 246 #[lR a, lR su, lJ 5, lS, lI 5, lI 4, lR b76, lR b89, lI 3, lI 0, lI 1, lI 2, lI 2, lI 0, lI vc, lI 3] [(.int 1), (.int 3), (.int vc), (.int 0), (.ref a)])) (fun _ k => XS.iconst X519.here hx rfl (hb hby d16_244) (XS.iadd X519.here hx rfl (hb hby d16_245) rfl k)) ?_
        have c521 := (c495.keep K499 (ninS ne_a_b3 (ninS ne_a_b7 (ninS ne_a_b17 (ninS ne_a_b29 (ninS ne_a_b42 nin0))))))
        have c522 := (c496.keep K499 (ninS ne_a_b3 (ninS ne_a_b7 (ninS ne_a_b17 (ninS ne_a_b29 (ninS ne_a_b42 nin0))))))
        obtain ⟨cq523, q523, q523'⟩ := c520.cell
        obtain ⟨_, _, ⟨T523, L523, k523, n523⟩, -, X523, ⟨Lc523, hQ523, l523, y523, z523⟩, st523⟩ := X519.privateBack hx (y := (⟨"com/example/percurso/percurso/suite/PrefixTree", "link", "(IIII)V"⟩ : MethodName)) hown (mvT hZ (hw _ mm150)) (mvT hZ (hw _ mm151)) (mvT hZ (own_selp (y := (⟨"com/example/percurso/percurso/suite/PrefixTree", "link", "(IIII)V"⟩ : MethodName)) (hw _ mm59) (hw _ mm152) (hw _ mm151) (by decide))) (Cond.privateMethod_at (mvP hZ (hw _ mm152) (args := #[]))) (mvT hZ (hw _ mm153)) (by decide) (backOf (W := 0) (rmLK_6 l Z a0 hw [] a vc b3 k3 b7 k7 b17 k17 b29 k29 b42 k42 (-1 : Int32) (0 : Int32) (0 : Int32) (0 : Int32) (0 : Int32) (-1 : Int32) va vb (0 : Int32) (0 : Int32) (0 : Int32) (1 : Int32) (1 : Int32) (0 : Int32) (0 : Int32) (-1 : Int32) (-1 : Int32) (0 : Int32) (0 : Int32) (-1 : Int32) (0 : Int32) (0 : Int32) T499.heap n0 Z499 c521 c516 c522 c517 c518 f499_0 f499_1 f499_2 f499_3 f499_4 ge_b3 ge_b7 ge_b17 ge_b29 ge_b42 ne_b3_b7 ne_b3_b17 ne_b3_b29 ne_b3_b42 ne_b7_b17 ne_b7_b29 ne_b7_b42 ne_b17_b29 ne_b17_b42 ne_b29_b42 ne_a_b3 ne_a_b7 ne_a_b17 ne_a_b29 ne_a_b42) hZ (hw _ mm153) (hw _ mm60) (by decide) (by decide)) (g := (mkF m 246 #[lR a, lR su, lJ 5, lS, lI 5, lI 4, lR b76, lR b89, lI 3, lI 0, lI 1, lI 2, lI 2, lI 0, lI vc, lI 3] [(.int 1), (.int 3), (.int vc), (.int 0), (.ref a)])) rfl (by rw [hml]; rfl) (Steps.refl _) (a := a) (by rw [e519]; exact q523) q523' (argsL := [(.int 0), (.int vc), (.int 3), (.int 1)]) (rest := []) (lenOf pd_10 rfl) rfl (by show 2 * 0 + _ ≤ _; exact Nat.le_of_eq rfl) (hb hby d16_246) (fun _ _ => ⟨rfl, e519, (by decide : 7 + 0 ≤ _), (by decide : 31 + 0 ≤ _)⟩)
        dsimp only [Pt.U, Pt.locs, Pt.cells, Pt.slots] at X523 l523 y523 z523 st523 hQ523
        rw [l523, y523, z523] at X523
        have c524 := (c500.keep K499)
        have c525 := (c501.keep K499)
        have c526 := (c502.keep K499)
        have c527 := (c503.keep K499)
        have c528 := (c504.keep K499)
        obtain ⟨hv523, N523q, K523, im523_0, im523_1, im523_2⟩ := hQ523
        rw [hv523] at st523
        have N523 := Fr.app N519 N523q
        have Z523 : n0 ≤ T523.heap.size := Nat.le_trans Z499 K523.1
        have KK523 : Keep h0 T523.heap [a] := (KK499).trans K523 (allS (Or.inr sz_b3) (allS (Or.inr sz_b7) (allS (Or.inr sz_b17) (allS (Or.inr sz_b29) (allS (Or.inr sz_b42) all0)))))
        obtain ⟨f523_0, f523_1, f523_2, f523_3, f523_4⟩ := im523_2 ho_vb_vc ho_va_vc
        refine Ds (B := T523.setTop (mkF m 249 #[lR a, lR su, lJ 5, lS, lI 5, lI 4, lR b76, lR b89, lI 3, lI 0, lI 1, lI 2, lI 2, lI 0, lI vc, lI 3] [])) (fun _ k => st523.trans k) ?_
        have c529 := (c521.keep K523 (ninS ne_a_b3 (ninS ne_a_b7 (ninS ne_a_b17 (ninS ne_a_b29 (ninS ne_a_b42 nin0))))))
        have c530 := (c516.keep K523 (ninS ne_a_b3 (ninS ne_a_b7 (ninS ne_a_b17 (ninS ne_a_b29 (ninS ne_a_b42 nin0))))))
        have c531 := (c522.keep K523 (ninS ne_a_b3 (ninS ne_a_b7 (ninS ne_a_b17 (ninS ne_a_b29 (ninS ne_a_b42 nin0))))))
        have c532 := (c517.keep K523 (ninS ne_a_b3 (ninS ne_a_b7 (ninS ne_a_b17 (ninS ne_a_b29 (ninS ne_a_b42 nin0))))))
        have c533 := (c518.keep K523 (ninS ne_a_b3 (ninS ne_a_b7 (ninS ne_a_b17 (ninS ne_a_b29 (ninS ne_a_b42 nin0))))))
        have c534 := (((Fld.other W155 (Fld.other W153 ((Fld.other W120 (Fld.other W113 (Fld.other W105 (Fld.ext E89 (Fld.ext E76 (Fld.other W70 (Fld.other W66 (Fld.other W62 (Fld.other W58 (Fld.other W55 (Fld.ext E42 (Fld.other W41 (Fld.ext E29 (Fld.other W28 (Fld.ext E17 (Fld.other W16 (Fld.ext E7 (Fld.other W6 (Fld.ext E3 F_size) (Or.inr (slot_ne (Or.inr (hw _ mm155)) (Or.inr (hw _ mm121)) (by decide) (t := .int) (t' := (.array .int)) (by decide) (by decide))))) (Or.inr (slot_ne (Or.inr (hw _ mm155)) (Or.inr (hw _ mm123)) (by decide) (t := .int) (t' := (.array .int)) (by decide) (by decide))))) (Or.inr (slot_ne (Or.inr (hw _ mm155)) (Or.inr (hw _ mm125)) (by decide) (t := .int) (t' := (.array .int)) (by decide) (by decide))))) (Or.inr (slot_ne (Or.inr (hw _ mm155)) (Or.inr (hw _ mm127)) (by decide) (t := .int) (t' := (.array .int)) (by decide) (by decide))))) (Or.inr (slot_ne (Or.inr (hw _ mm155)) (Or.inr (hw _ mm129)) (by decide) (t := .int) (t' := (.array .int)) (by decide) (by decide)))) (Or.inl ne_a_b3)) (Or.inl ne_a_b7)) (Or.inl ne_a_b29)) (Or.inl ne_a_b42)))) (Or.inl ne_a_b76)) (Or.inl ne_a_b76)) (Or.inl ne_a_b76)).keep K142 (ninS ne_a_b3 (ninS ne_a_b7 (ninS ne_a_b17 (ninS ne_a_b29 (ninS ne_a_b42 nin0)))))) (Or.inl ne_a_b76)) (Or.inl ne_a_b89)).keep K499 (ninS ne_a_b3 (ninS ne_a_b7 (ninS ne_a_b17 (ninS ne_a_b29 (ninS ne_a_b42 nin0)))))).keep K523 (ninS ne_a_b3 (ninS ne_a_b7 (ninS ne_a_b17 (ninS ne_a_b29 (ninS ne_a_b42 nin0))))))
        have c535 := (c520.keep K523)
        have c536 := (c509.keep K523)
        have c537 := (c505.keep K523 (ninS ne_su_b3 (ninS ne_su_b7 (ninS ne_su_b17 (ninS ne_su_b29 (ninS ne_su_b42 nin0))))))
        have c538 := (c506.keep K523 (ninS ne_u_b3 (ninS ne_u_b7 (ninS ne_u_b17 (ninS ne_u_b29 (ninS ne_u_b42 nin0))))))
        have c539 := ((((c150.other W153 ne_cc0_b76).other W155 ne_cc0_b89).keep K499 (ninS ne_cc0_b3 (ninS ne_cc0_b7 (ninS ne_cc0_b17 (ninS ne_cc0_b29 (ninS ne_cc0_b42 nin0)))))).keep K523 (ninS ne_cc0_b3 (ninS ne_cc0_b7 (ninS ne_cc0_b17 (ninS ne_cc0_b29 (ninS ne_cc0_b42 nin0))))))
        have c540 := (c507.keep K523 (ninS ne_cc1_b3 (ninS ne_cc1_b7 (ninS ne_cc1_b17 (ninS ne_cc1_b29 (ninS ne_cc1_b42 nin0))))))
        have c541 := (c514.keep K523 (ninS ne_cc2_b3 (ninS ne_cc2_b7 (ninS ne_cc2_b17 (ninS ne_cc2_b29 (ninS ne_cc2_b42 nin0))))))
        have c542 := (c524.keep K523)
        have c543 := (c525.keep K523)
        have c544 := (c526.keep K523)
        have c545 := (c527.keep K523)
        have c546 := (c528.keep K523)
        have c547 := (c511.keep K523 (ninS (Ne.symm ne_b3_b76) (ninS (Ne.symm ne_b7_b76) (ninS (Ne.symm ne_b17_b76) (ninS (Ne.symm ne_b29_b76) (ninS (Ne.symm ne_b42_b76) nin0))))))
        have c548 := (((Exa.wr W155 (Exa.wr W153 ((Exa.wr W120 (Exa.wr W113 (Exa.wr W105 (Exa.ext E89 Ex76)))).keep K142))).keep K499).keep K523)
        have c549 := (c513.keep K523 (ninS (Ne.symm ne_b3_b89) (ninS (Ne.symm ne_b7_b89) (ninS (Ne.symm ne_b17_b89) (ninS (Ne.symm ne_b29_b89) (ninS (Ne.symm ne_b42_b89) nin0))))))
        have c550 := (((Exa.wr W155 (Exa.wr W153 ((Exa.wr W120 (Exa.wr W113 (Exa.wr W105 Ex89))).keep K142))).keep K499).keep K523)
        exact jJ3 vb vc (2 : Int32) (3 : Int32) (1 : Int32) (-1 : Int32) [((2 : Int32), vb), ((1 : Int32), va), ((3 : Int32), vc)] (3 : Int32) T523 T523.heap _ X523 rfl N523 Z523 KK523 c529 c530 c531 c532 c533 c534 c535 c536 c537 c538 c539 c540 c541 c542 c543 c544 c545 c546 c547 c548 c549 c550 f523_0 f523_1 f523_2 f523_3 f523_4  ⟨⟨rfl, ⟨by decide, by decide⟩, rfl, _, rfl, ⟨rfl, ⟨by decide, by decide⟩, rfl, _, rfl, ⟨rfl, ⟨by decide, by decide⟩, rfl, _, rfl, rfl⟩⟩⟩, Nat.le_of_ble_eq_true rfl, (own_bac ho_va_vb ho_va_vc).1, rfl, (own_bac ho_va_vb ho_va_vc).2, rfl, ⟨rfl, ⟨by decide, by decide⟩, rfl, _, rfl, rfl⟩, rfl, Or.inr ⟨rfl, Or.inr ⟨rfl, rfl⟩⟩⟩
      · have ho_va_vc := hk
        clear hk
        have c551 := (c487.keep K499 (ninS ne_a_b3 (ninS ne_a_b7 (ninS ne_a_b17 (ninS ne_a_b29 (ninS ne_a_b42 nin0))))))
        have c552 := (c488.keep K499 (ninS ne_a_b3 (ninS ne_a_b7 (ninS ne_a_b17 (ninS ne_a_b29 (ninS ne_a_b42 nin0))))))
        have c553 := (c489.keep K499 (ninS ne_a_b3 (ninS ne_a_b7 (ninS ne_a_b17 (ninS ne_a_b29 (ninS ne_a_b42 nin0))))))
        have c555 := (c494.keep K499)
        obtain ⟨cq554, kq554, q554a, q554b, q554c⟩ := isOf hZ e515 c555
        obtain ⟨_, _, ⟨T554, L554, k554, n554⟩, -, X554, ⟨Lc554, hQ554, l554, y554, z554⟩, st554⟩ := X515.virtualBack hx (y := (⟨"com/example/percurso/percurso/suite/PrefixTree", "child", "(II)I"⟩ : MethodName)) (z := (⟨"com/example/percurso/percurso/suite/PrefixTree", "child", "(II)I"⟩ : MethodName)) hown (mvT hZ (hw _ mm145)) (mvT hZ (hw _ mm146)) (notFace_of_selects (args := #[]) (mvT hZ (hw _ mm148))) (mvT hZ (hw _ mm148)) (mvT hZ (hw _ mm147)) (by decide) (backOf (W := 0) (rmCH_2 l Z a0 hw [] a (0 : Int32) vc b7 k7 [(.int (-1)), (.int va), (.int vb), (.int 0), (.int 0)] b29 k29 [(.int 2), (.int (-1)), (.int (-1)), (.int 0), (.int 0)] b42 k42 [(.int (-1)), (.int (-1)), (.int 1), (.int 0), (.int 0)] (2 : Int32) (1 : Int32) vb va T499.heap n0 Z499 c551 c552 c553 f499_1 f499_3 f499_4 ⟨by decide, by decide⟩ rfl ⟨by decide, by decide⟩ rfl rfl ⟨by decide, by decide⟩ rfl rfl) hZ (hw _ mm149) (hw _ mm60) (by decide) (by decide)) q554a q554c (g := (mkF m 217 #[lR a, lR su, lJ 5, lS, lI 5, lI 3, lR b76, lR b89, lI 3, lI 0, lI 1, lI 2, lI 2, lI 0, lI vc, lI 2] [(.int vc), (.int 0), (.ref a)])) rfl (by rw [hml]; rfl) (Steps.refl _) (argsL := [(.int 0), (.int vc)]) (rest := []) (lenOf pd_1 rfl) rfl (by show 2 * 0 + _ ≤ _; exact Nat.le_of_eq rfl) (hb hby d16_217) (fun _ _ => ⟨rfl, e515, (by decide : 7 + 0 ≤ _), (by decide : 31 + 0 ≤ _)⟩)
        dsimp only [Pt.U, Pt.locs, Pt.cells, Pt.slots] at X554 l554 y554 z554 st554 hQ554
        rw [l554, y554, z554] at X554
        obtain ⟨hv554, N554q, e554⟩ := hQ554
        rw [show own_find [((2 : Int32), vb), ((1 : Int32), va)] vc = (1 : Int32) from (own_find_lt ho_vb_vc (own_find_eq ho_va_vc))] at hv554
        rw [hv554] at st554
        have N554 := Fr.app N515 N554q
        refine Ds (B := T554.setTop (mkF m 220 #[lR a, lR su, lJ 5, lS, lI 5, lI 3, lR b76, lR b89, lI 3, lI 0, lI 1, lI 2, lI 2, lI 0, lI vc, lI 2] [(.int 1)])) (fun _ k => st554.trans k) ?_
        refine Ds (B := T554.setTop (mkF m 249 #[lR a, lR su, lJ 5, lS, lI 5, lI 3, lR b76, lR b89, lI 3, lI 0, lI 1, lI 2, lI 2, lI 0, lI vc, lI 1] [])) (fun _ k => XS.istore X554.here hx rfl (hb hby d16_220) rfl (l' := #[lR a, lR su, lJ 5, lS, lI 5, lI 3, lR b76, lR b89, lI 3, lI 0, lI 1, lI 2, lI 2, lI 0, lI vc, lI 1]) rfl (XS.iload X554.here hx rfl (hb hby d16_222) rfl (XS.iconst X554.here hx rfl (hb hby d16_224) (XS.icmpYes X554.here hx rfl (pc0 := 225) (pc' := 249) rfl (hb hby d16_225) rfl (feq (by decide : ¬ ((1 : Int32) = (-1 : Int32)))).2 (by decide) (by decide) k)))) ?_
        have c556 := (c495.keep K499 (ninS ne_a_b3 (ninS ne_a_b7 (ninS ne_a_b17 (ninS ne_a_b29 (ninS ne_a_b42 nin0))))))
        have c557 := (c496.keep K499 (ninS ne_a_b3 (ninS ne_a_b7 (ninS ne_a_b17 (ninS ne_a_b29 (ninS ne_a_b42 nin0))))))
        have c558 := ((Fld.other W155 (Fld.other W153 ((Fld.other W120 (Fld.other W113 (Fld.other W105 (Fld.ext E89 (Fld.ext E76 (Fld.other W70 (Fld.other W66 (Fld.other W62 (Fld.other W58 (Fld.other W55 (Fld.ext E42 (Fld.other W41 (Fld.ext E29 (Fld.other W28 (Fld.ext E17 (Fld.other W16 (Fld.ext E7 (Fld.other W6 (Fld.ext E3 F_size) (Or.inr (slot_ne (Or.inr (hw _ mm155)) (Or.inr (hw _ mm121)) (by decide) (t := .int) (t' := (.array .int)) (by decide) (by decide))))) (Or.inr (slot_ne (Or.inr (hw _ mm155)) (Or.inr (hw _ mm123)) (by decide) (t := .int) (t' := (.array .int)) (by decide) (by decide))))) (Or.inr (slot_ne (Or.inr (hw _ mm155)) (Or.inr (hw _ mm125)) (by decide) (t := .int) (t' := (.array .int)) (by decide) (by decide))))) (Or.inr (slot_ne (Or.inr (hw _ mm155)) (Or.inr (hw _ mm127)) (by decide) (t := .int) (t' := (.array .int)) (by decide) (by decide))))) (Or.inr (slot_ne (Or.inr (hw _ mm155)) (Or.inr (hw _ mm129)) (by decide) (t := .int) (t' := (.array .int)) (by decide) (by decide)))) (Or.inl ne_a_b3)) (Or.inl ne_a_b7)) (Or.inl ne_a_b29)) (Or.inl ne_a_b42)))) (Or.inl ne_a_b76)) (Or.inl ne_a_b76)) (Or.inl ne_a_b76)).keep K142 (ninS ne_a_b3 (ninS ne_a_b7 (ninS ne_a_b17 (ninS ne_a_b29 (ninS ne_a_b42 nin0)))))) (Or.inl ne_a_b76)) (Or.inl ne_a_b89)).keep K499 (ninS ne_a_b3 (ninS ne_a_b7 (ninS ne_a_b17 (ninS ne_a_b29 (ninS ne_a_b42 nin0))))))
        have c559 := (((c150.other W153 ne_cc0_b76).other W155 ne_cc0_b89).keep K499 (ninS ne_cc0_b3 (ninS ne_cc0_b7 (ninS ne_cc0_b17 (ninS ne_cc0_b29 (ninS ne_cc0_b42 nin0))))))
        have c560 := (c500.keep K499)
        have c561 := (c501.keep K499)
        have c562 := (c502.keep K499)
        have c563 := (c503.keep K499)
        have c564 := (c504.keep K499)
        have c565 := ((Exa.wr W155 (Exa.wr W153 ((Exa.wr W120 (Exa.wr W113 (Exa.wr W105 (Exa.ext E89 Ex76)))).keep K142))).keep K499)
        have c566 := ((Exa.wr W155 (Exa.wr W153 ((Exa.wr W120 (Exa.wr W113 (Exa.wr W105 Ex89))).keep K142))).keep K499)
        exact jJ2 vb (2 : Int32) (-1 : Int32) (1 : Int32) [((2 : Int32), vb), ((1 : Int32), va)] (1 : Int32) T554 T499.heap _ X554 e554 N554 Z499 KK499 c556 c551 c557 c552 c553 c558 c555 c509 c505 c506 c559 c507 c514 c560 c561 c562 c563 c564 c511 c565 c513 c566 f499_0 f499_1 f499_2 f499_3 f499_4  ⟨⟨rfl, ⟨by decide, by decide⟩, rfl, _, rfl, ⟨rfl, ⟨by decide, by decide⟩, rfl, _, rfl, rfl⟩⟩, Nat.le_of_ble_eq_true rfl, (own_q2 ho_va_vb (Or.inl (Eq.symm ho_va_vc))).1, rfl, (own_q2 ho_va_vb (Or.inl (Eq.symm ho_va_vc))).2, rfl, ⟨rfl, ⟨by decide, by decide⟩, rfl, _, rfl, rfl⟩, rfl, Or.inr ⟨rfl, Or.inl rfl⟩⟩
      · have ho_va_vc := hk
        clear hk
        have c567 := (c487.keep K499 (ninS ne_a_b3 (ninS ne_a_b7 (ninS ne_a_b17 (ninS ne_a_b29 (ninS ne_a_b42 nin0))))))
        have c568 := (c488.keep K499 (ninS ne_a_b3 (ninS ne_a_b7 (ninS ne_a_b17 (ninS ne_a_b29 (ninS ne_a_b42 nin0))))))
        have c569 := (c489.keep K499 (ninS ne_a_b3 (ninS ne_a_b7 (ninS ne_a_b17 (ninS ne_a_b29 (ninS ne_a_b42 nin0))))))
        have c571 := (c494.keep K499)
        obtain ⟨cq570, kq570, q570a, q570b, q570c⟩ := isOf hZ e515 c571
        obtain ⟨_, _, ⟨T570, L570, k570, n570⟩, -, X570, ⟨Lc570, hQ570, l570, y570, z570⟩, st570⟩ := X515.virtualBack hx (y := (⟨"com/example/percurso/percurso/suite/PrefixTree", "child", "(II)I"⟩ : MethodName)) (z := (⟨"com/example/percurso/percurso/suite/PrefixTree", "child", "(II)I"⟩ : MethodName)) hown (mvT hZ (hw _ mm145)) (mvT hZ (hw _ mm146)) (notFace_of_selects (args := #[]) (mvT hZ (hw _ mm148))) (mvT hZ (hw _ mm148)) (mvT hZ (hw _ mm147)) (by decide) (backOf (W := 0) (rmCH_2 l Z a0 hw [] a (0 : Int32) vc b7 k7 [(.int (-1)), (.int va), (.int vb), (.int 0), (.int 0)] b29 k29 [(.int 2), (.int (-1)), (.int (-1)), (.int 0), (.int 0)] b42 k42 [(.int (-1)), (.int (-1)), (.int 1), (.int 0), (.int 0)] (2 : Int32) (1 : Int32) vb va T499.heap n0 Z499 c567 c568 c569 f499_1 f499_3 f499_4 ⟨by decide, by decide⟩ rfl ⟨by decide, by decide⟩ rfl rfl ⟨by decide, by decide⟩ rfl rfl) hZ (hw _ mm149) (hw _ mm60) (by decide) (by decide)) q570a q570c (g := (mkF m 217 #[lR a, lR su, lJ 5, lS, lI 5, lI 3, lR b76, lR b89, lI 3, lI 0, lI 1, lI 2, lI 2, lI 0, lI vc, lI 2] [(.int vc), (.int 0), (.ref a)])) rfl (by rw [hml]; rfl) (Steps.refl _) (argsL := [(.int 0), (.int vc)]) (rest := []) (lenOf pd_1 rfl) rfl (by show 2 * 0 + _ ≤ _; exact Nat.le_of_eq rfl) (hb hby d16_217) (fun _ _ => ⟨rfl, e515, (by decide : 7 + 0 ≤ _), (by decide : 31 + 0 ≤ _)⟩)
        dsimp only [Pt.U, Pt.locs, Pt.cells, Pt.slots] at X570 l570 y570 z570 st570 hQ570
        rw [l570, y570, z570] at X570
        obtain ⟨hv570, N570q, e570⟩ := hQ570
        rw [show own_find [((2 : Int32), vb), ((1 : Int32), va)] vc = (-1 : Int32) from (own_find_lt ho_vb_vc (own_find_gt ho_va_vc))] at hv570
        rw [hv570] at st570
        have N570 := Fr.app N515 N570q
        refine Ds (B := T570.setTop (mkF m 220 #[lR a, lR su, lJ 5, lS, lI 5, lI 3, lR b76, lR b89, lI 3, lI 0, lI 1, lI 2, lI 2, lI 0, lI vc, lI 2] [(.int (-1))])) (fun _ k => st570.trans k) ?_
        refine Ds (B := T570.setTop (mkF m 233 #[lR a, lR su, lJ 5, lS, lI 5, lI 4, lR b76, lR b89, lI 3, lI 0, lI 1, lI 2, lI 2, lI 0, lI vc, lI (-1)] [(.int 3)])) (fun _ k => XS.istore X570.here hx rfl (hb hby d16_220) rfl (l' := #[lR a, lR su, lJ 5, lS, lI 5, lI 3, lR b76, lR b89, lI 3, lI 0, lI 1, lI 2, lI 2, lI 0, lI vc, lI (-1)]) rfl (XS.iload X570.here hx rfl (hb hby d16_222) rfl (XS.iconst X570.here hx rfl (hb hby d16_224) (XS.icmpNo X570.here hx rfl (hb hby d16_225) rfl (teq (rfl : (-1 : Int32) = (-1 : Int32))).2 (XS.iload X570.here hx rfl (hb hby d16_228) rfl (XS.iinc X570.here hx rfl (hb hby d16_230) rfl (l' := #[lR a, lR su, lJ 5, lS, lI 5, lI 4, lR b76, lR b89, lI 3, lI 0, lI 1, lI 2, lI 2, lI 0, lI vc, lI (-1)]) rfl k)))))) ?_
        refine Ds (B := T570.setTop (mkF m 244 #[lR a, lR su, lJ 5, lS, lI 5, lI 4, lR b76, lR b89, lI 3, lI 0, lI 1, lI 2, lI 2, lI 0, lI vc, lI 3] [(.int 0), (.int 3), (.int vc), (.int 0), (.ref a)])) (fun _ k => XS.istore X570.here hx rfl (hb hby d16_233) rfl (l' := #[lR a, lR su, lJ 5, lS, lI 5, lI 4, lR b76, lR b89, lI 3, lI 0, lI 1, lI 2, lI 2, lI 0, lI vc, lI 3]) rfl (XS.aloadN X570.here hx rfl (hb hby d16_235) rfl rfl (XS.iload X570.here hx rfl (hb hby d16_236) rfl (XS.iload X570.here hx rfl (hb hby d16_238) rfl (XS.iload X570.here hx rfl (hb hby d16_240) rfl (XS.iload X570.here hx rfl (hb hby d16_242) rfl k)))))) ?_
        refine Ds (B := T570.setTop (mkF m 246 #[lR a, lR su, lJ 5, lS, lI 5, lI 4, lR b76, lR b89, lI 3, lI 0, lI 1, lI 2, lI 2, lI 0, lI vc, lI 3] [(.int 1), (.int 3), (.int vc), (.int 0), (.ref a)])) (fun _ k => XS.iconst X570.here hx rfl (hb hby d16_244) (XS.iadd X570.here hx rfl (hb hby d16_245) rfl k)) ?_
        have c572 := (c495.keep K499 (ninS ne_a_b3 (ninS ne_a_b7 (ninS ne_a_b17 (ninS ne_a_b29 (ninS ne_a_b42 nin0))))))
        have c573 := (c496.keep K499 (ninS ne_a_b3 (ninS ne_a_b7 (ninS ne_a_b17 (ninS ne_a_b29 (ninS ne_a_b42 nin0))))))
        obtain ⟨cq574, q574, q574'⟩ := c571.cell
        obtain ⟨_, _, ⟨T574, L574, k574, n574⟩, -, X574, ⟨Lc574, hQ574, l574, y574, z574⟩, st574⟩ := X570.privateBack hx (y := (⟨"com/example/percurso/percurso/suite/PrefixTree", "link", "(IIII)V"⟩ : MethodName)) hown (mvT hZ (hw _ mm150)) (mvT hZ (hw _ mm151)) (mvT hZ (own_selp (y := (⟨"com/example/percurso/percurso/suite/PrefixTree", "link", "(IIII)V"⟩ : MethodName)) (hw _ mm59) (hw _ mm152) (hw _ mm151) (by decide))) (Cond.privateMethod_at (mvP hZ (hw _ mm152) (args := #[]))) (mvT hZ (hw _ mm153)) (by decide) (backOf (W := 0) (rmLK_6 l Z a0 hw [] a vc b3 k3 b7 k7 b17 k17 b29 k29 b42 k42 (-1 : Int32) (0 : Int32) (0 : Int32) (0 : Int32) (0 : Int32) (-1 : Int32) va vb (0 : Int32) (0 : Int32) (0 : Int32) (1 : Int32) (1 : Int32) (0 : Int32) (0 : Int32) (-1 : Int32) (-1 : Int32) (0 : Int32) (0 : Int32) (-1 : Int32) (0 : Int32) (0 : Int32) T499.heap n0 Z499 c572 c567 c573 c568 c569 f499_0 f499_1 f499_2 f499_3 f499_4 ge_b3 ge_b7 ge_b17 ge_b29 ge_b42 ne_b3_b7 ne_b3_b17 ne_b3_b29 ne_b3_b42 ne_b7_b17 ne_b7_b29 ne_b7_b42 ne_b17_b29 ne_b17_b42 ne_b29_b42 ne_a_b3 ne_a_b7 ne_a_b17 ne_a_b29 ne_a_b42) hZ (hw _ mm153) (hw _ mm60) (by decide) (by decide)) (g := (mkF m 246 #[lR a, lR su, lJ 5, lS, lI 5, lI 4, lR b76, lR b89, lI 3, lI 0, lI 1, lI 2, lI 2, lI 0, lI vc, lI 3] [(.int 1), (.int 3), (.int vc), (.int 0), (.ref a)])) rfl (by rw [hml]; rfl) (Steps.refl _) (a := a) (by rw [e570]; exact q574) q574' (argsL := [(.int 0), (.int vc), (.int 3), (.int 1)]) (rest := []) (lenOf pd_10 rfl) rfl (by show 2 * 0 + _ ≤ _; exact Nat.le_of_eq rfl) (hb hby d16_246) (fun _ _ => ⟨rfl, e570, (by decide : 7 + 0 ≤ _), (by decide : 31 + 0 ≤ _)⟩)
        dsimp only [Pt.U, Pt.locs, Pt.cells, Pt.slots] at X574 l574 y574 z574 st574 hQ574
        rw [l574, y574, z574] at X574
        have c575 := (c500.keep K499)
        have c576 := (c501.keep K499)
        have c577 := (c502.keep K499)
        have c578 := (c503.keep K499)
        have c579 := (c504.keep K499)
        obtain ⟨hv574, N574q, K574, im574_0, im574_1, im574_2⟩ := hQ574
        rw [hv574] at st574
        have N574 := Fr.app N570 N574q
        have Z574 : n0 ≤ T574.heap.size := Nat.le_trans Z499 K574.1
        have KK574 : Keep h0 T574.heap [a] := (KK499).trans K574 (allS (Or.inr sz_b3) (allS (Or.inr sz_b7) (allS (Or.inr sz_b17) (allS (Or.inr sz_b29) (allS (Or.inr sz_b42) all0)))))
        obtain ⟨f574_0, f574_1, f574_2, f574_3, f574_4⟩ := im574_1 ho_vb_vc (own_nlt ho_va_vc)
        refine Ds (B := T574.setTop (mkF m 249 #[lR a, lR su, lJ 5, lS, lI 5, lI 4, lR b76, lR b89, lI 3, lI 0, lI 1, lI 2, lI 2, lI 0, lI vc, lI 3] [])) (fun _ k => st574.trans k) ?_
        have c580 := (c572.keep K574 (ninS ne_a_b3 (ninS ne_a_b7 (ninS ne_a_b17 (ninS ne_a_b29 (ninS ne_a_b42 nin0))))))
        have c581 := (c567.keep K574 (ninS ne_a_b3 (ninS ne_a_b7 (ninS ne_a_b17 (ninS ne_a_b29 (ninS ne_a_b42 nin0))))))
        have c582 := (c573.keep K574 (ninS ne_a_b3 (ninS ne_a_b7 (ninS ne_a_b17 (ninS ne_a_b29 (ninS ne_a_b42 nin0))))))
        have c583 := (c568.keep K574 (ninS ne_a_b3 (ninS ne_a_b7 (ninS ne_a_b17 (ninS ne_a_b29 (ninS ne_a_b42 nin0))))))
        have c584 := (c569.keep K574 (ninS ne_a_b3 (ninS ne_a_b7 (ninS ne_a_b17 (ninS ne_a_b29 (ninS ne_a_b42 nin0))))))
        have c585 := (((Fld.other W155 (Fld.other W153 ((Fld.other W120 (Fld.other W113 (Fld.other W105 (Fld.ext E89 (Fld.ext E76 (Fld.other W70 (Fld.other W66 (Fld.other W62 (Fld.other W58 (Fld.other W55 (Fld.ext E42 (Fld.other W41 (Fld.ext E29 (Fld.other W28 (Fld.ext E17 (Fld.other W16 (Fld.ext E7 (Fld.other W6 (Fld.ext E3 F_size) (Or.inr (slot_ne (Or.inr (hw _ mm155)) (Or.inr (hw _ mm121)) (by decide) (t := .int) (t' := (.array .int)) (by decide) (by decide))))) (Or.inr (slot_ne (Or.inr (hw _ mm155)) (Or.inr (hw _ mm123)) (by decide) (t := .int) (t' := (.array .int)) (by decide) (by decide))))) (Or.inr (slot_ne (Or.inr (hw _ mm155)) (Or.inr (hw _ mm125)) (by decide) (t := .int) (t' := (.array .int)) (by decide) (by decide))))) (Or.inr (slot_ne (Or.inr (hw _ mm155)) (Or.inr (hw _ mm127)) (by decide) (t := .int) (t' := (.array .int)) (by decide) (by decide))))) (Or.inr (slot_ne (Or.inr (hw _ mm155)) (Or.inr (hw _ mm129)) (by decide) (t := .int) (t' := (.array .int)) (by decide) (by decide)))) (Or.inl ne_a_b3)) (Or.inl ne_a_b7)) (Or.inl ne_a_b29)) (Or.inl ne_a_b42)))) (Or.inl ne_a_b76)) (Or.inl ne_a_b76)) (Or.inl ne_a_b76)).keep K142 (ninS ne_a_b3 (ninS ne_a_b7 (ninS ne_a_b17 (ninS ne_a_b29 (ninS ne_a_b42 nin0)))))) (Or.inl ne_a_b76)) (Or.inl ne_a_b89)).keep K499 (ninS ne_a_b3 (ninS ne_a_b7 (ninS ne_a_b17 (ninS ne_a_b29 (ninS ne_a_b42 nin0)))))).keep K574 (ninS ne_a_b3 (ninS ne_a_b7 (ninS ne_a_b17 (ninS ne_a_b29 (ninS ne_a_b42 nin0))))))
        have c586 := (c571.keep K574)
        have c587 := (c509.keep K574)
        have c588 := (c505.keep K574 (ninS ne_su_b3 (ninS ne_su_b7 (ninS ne_su_b17 (ninS ne_su_b29 (ninS ne_su_b42 nin0))))))
        have c589 := (c506.keep K574 (ninS ne_u_b3 (ninS ne_u_b7 (ninS ne_u_b17 (ninS ne_u_b29 (ninS ne_u_b42 nin0))))))
        have c590 := ((((c150.other W153 ne_cc0_b76).other W155 ne_cc0_b89).keep K499 (ninS ne_cc0_b3 (ninS ne_cc0_b7 (ninS ne_cc0_b17 (ninS ne_cc0_b29 (ninS ne_cc0_b42 nin0)))))).keep K574 (ninS ne_cc0_b3 (ninS ne_cc0_b7 (ninS ne_cc0_b17 (ninS ne_cc0_b29 (ninS ne_cc0_b42 nin0))))))
        have c591 := (c507.keep K574 (ninS ne_cc1_b3 (ninS ne_cc1_b7 (ninS ne_cc1_b17 (ninS ne_cc1_b29 (ninS ne_cc1_b42 nin0))))))
        have c592 := (c514.keep K574 (ninS ne_cc2_b3 (ninS ne_cc2_b7 (ninS ne_cc2_b17 (ninS ne_cc2_b29 (ninS ne_cc2_b42 nin0))))))
        have c593 := (c575.keep K574)
        have c594 := (c576.keep K574)
        have c595 := (c577.keep K574)
        have c596 := (c578.keep K574)
        have c597 := (c579.keep K574)
        have c598 := (c511.keep K574 (ninS (Ne.symm ne_b3_b76) (ninS (Ne.symm ne_b7_b76) (ninS (Ne.symm ne_b17_b76) (ninS (Ne.symm ne_b29_b76) (ninS (Ne.symm ne_b42_b76) nin0))))))
        have c599 := (((Exa.wr W155 (Exa.wr W153 ((Exa.wr W120 (Exa.wr W113 (Exa.wr W105 (Exa.ext E89 Ex76)))).keep K142))).keep K499).keep K574)
        have c600 := (c513.keep K574 (ninS (Ne.symm ne_b3_b89) (ninS (Ne.symm ne_b7_b89) (ninS (Ne.symm ne_b17_b89) (ninS (Ne.symm ne_b29_b89) (ninS (Ne.symm ne_b42_b89) nin0))))))
        have c601 := (((Exa.wr W155 (Exa.wr W153 ((Exa.wr W120 (Exa.wr W113 (Exa.wr W105 Ex89))).keep K142))).keep K499).keep K574)
        exact jJ3 vb vc (2 : Int32) (-1 : Int32) (3 : Int32) (1 : Int32) [((2 : Int32), vb), ((3 : Int32), vc), ((1 : Int32), va)] (3 : Int32) T574 T574.heap _ X574 rfl N574 Z574 KK574 c580 c581 c582 c583 c584 c585 c586 c587 c588 c589 c590 c591 c592 c593 c594 c595 c596 c597 c598 c599 c600 c601 f574_0 f574_1 f574_2 f574_3 f574_4  ⟨⟨rfl, ⟨by decide, by decide⟩, rfl, _, rfl, ⟨rfl, ⟨by decide, by decide⟩, rfl, _, rfl, ⟨rfl, ⟨by decide, by decide⟩, rfl, _, rfl, rfl⟩⟩⟩, Nat.le_of_ble_eq_true rfl, (own_bca ho_vb_vc ho_va_vc).1, rfl, (own_bca ho_vb_vc ho_va_vc).2, rfl, ⟨rfl, ⟨by decide, by decide⟩, rfl, _, rfl, rfl⟩, rfl, Or.inr ⟨rfl, Or.inr ⟨rfl, rfl⟩⟩⟩
    · have ho_vb_vc := hk
      clear hk
      have c602 := (c487.keep K499 (ninS ne_a_b3 (ninS ne_a_b7 (ninS ne_a_b17 (ninS ne_a_b29 (ninS ne_a_b42 nin0))))))
      have c603 := (c488.keep K499 (ninS ne_a_b3 (ninS ne_a_b7 (ninS ne_a_b17 (ninS ne_a_b29 (ninS ne_a_b42 nin0))))))
      have c604 := (c489.keep K499 (ninS ne_a_b3 (ninS ne_a_b7 (ninS ne_a_b17 (ninS ne_a_b29 (ninS ne_a_b42 nin0))))))
      have c606 := (c494.keep K499)
      obtain ⟨cq605, kq605, q605a, q605b, q605c⟩ := isOf hZ e515 c606
      obtain ⟨_, _, ⟨T605, L605, k605, n605⟩, -, X605, ⟨Lc605, hQ605, l605, y605, z605⟩, st605⟩ := X515.virtualBack hx (y := (⟨"com/example/percurso/percurso/suite/PrefixTree", "child", "(II)I"⟩ : MethodName)) (z := (⟨"com/example/percurso/percurso/suite/PrefixTree", "child", "(II)I"⟩ : MethodName)) hown (mvT hZ (hw _ mm145)) (mvT hZ (hw _ mm146)) (notFace_of_selects (args := #[]) (mvT hZ (hw _ mm148))) (mvT hZ (hw _ mm148)) (mvT hZ (hw _ mm147)) (by decide) (backOf (W := 0) (rmCH_2 l Z a0 hw [] a (0 : Int32) vc b7 k7 [(.int (-1)), (.int va), (.int vb), (.int 0), (.int 0)] b29 k29 [(.int 2), (.int (-1)), (.int (-1)), (.int 0), (.int 0)] b42 k42 [(.int (-1)), (.int (-1)), (.int 1), (.int 0), (.int 0)] (2 : Int32) (1 : Int32) vb va T499.heap n0 Z499 c602 c603 c604 f499_1 f499_3 f499_4 ⟨by decide, by decide⟩ rfl ⟨by decide, by decide⟩ rfl rfl ⟨by decide, by decide⟩ rfl rfl) hZ (hw _ mm149) (hw _ mm60) (by decide) (by decide)) q605a q605c (g := (mkF m 217 #[lR a, lR su, lJ 5, lS, lI 5, lI 3, lR b76, lR b89, lI 3, lI 0, lI 1, lI 2, lI 2, lI 0, lI vc, lI 2] [(.int vc), (.int 0), (.ref a)])) rfl (by rw [hml]; rfl) (Steps.refl _) (argsL := [(.int 0), (.int vc)]) (rest := []) (lenOf pd_1 rfl) rfl (by show 2 * 0 + _ ≤ _; exact Nat.le_of_eq rfl) (hb hby d16_217) (fun _ _ => ⟨rfl, e515, (by decide : 7 + 0 ≤ _), (by decide : 31 + 0 ≤ _)⟩)
      dsimp only [Pt.U, Pt.locs, Pt.cells, Pt.slots] at X605 l605 y605 z605 st605 hQ605
      rw [l605, y605, z605] at X605
      obtain ⟨hv605, N605q, e605⟩ := hQ605
      rw [show own_find [((2 : Int32), vb), ((1 : Int32), va)] vc = (2 : Int32) from (own_find_eq ho_vb_vc)] at hv605
      rw [hv605] at st605
      have N605 := Fr.app N515 N605q
      refine Ds (B := T605.setTop (mkF m 220 #[lR a, lR su, lJ 5, lS, lI 5, lI 3, lR b76, lR b89, lI 3, lI 0, lI 1, lI 2, lI 2, lI 0, lI vc, lI 2] [(.int 2)])) (fun _ k => st605.trans k) ?_
      refine Ds (B := T605.setTop (mkF m 249 #[lR a, lR su, lJ 5, lS, lI 5, lI 3, lR b76, lR b89, lI 3, lI 0, lI 1, lI 2, lI 2, lI 0, lI vc, lI 2] [])) (fun _ k => XS.istore X605.here hx rfl (hb hby d16_220) rfl (l' := #[lR a, lR su, lJ 5, lS, lI 5, lI 3, lR b76, lR b89, lI 3, lI 0, lI 1, lI 2, lI 2, lI 0, lI vc, lI 2]) rfl (XS.iload X605.here hx rfl (hb hby d16_222) rfl (XS.iconst X605.here hx rfl (hb hby d16_224) (XS.icmpYes X605.here hx rfl (pc0 := 225) (pc' := 249) rfl (hb hby d16_225) rfl (feq (by decide : ¬ ((2 : Int32) = (-1 : Int32)))).2 (by decide) (by decide) k)))) ?_
      have c607 := (c495.keep K499 (ninS ne_a_b3 (ninS ne_a_b7 (ninS ne_a_b17 (ninS ne_a_b29 (ninS ne_a_b42 nin0))))))
      have c608 := (c496.keep K499 (ninS ne_a_b3 (ninS ne_a_b7 (ninS ne_a_b17 (ninS ne_a_b29 (ninS ne_a_b42 nin0))))))
      have c609 := ((Fld.other W155 (Fld.other W153 ((Fld.other W120 (Fld.other W113 (Fld.other W105 (Fld.ext E89 (Fld.ext E76 (Fld.other W70 (Fld.other W66 (Fld.other W62 (Fld.other W58 (Fld.other W55 (Fld.ext E42 (Fld.other W41 (Fld.ext E29 (Fld.other W28 (Fld.ext E17 (Fld.other W16 (Fld.ext E7 (Fld.other W6 (Fld.ext E3 F_size) (Or.inr (slot_ne (Or.inr (hw _ mm155)) (Or.inr (hw _ mm121)) (by decide) (t := .int) (t' := (.array .int)) (by decide) (by decide))))) (Or.inr (slot_ne (Or.inr (hw _ mm155)) (Or.inr (hw _ mm123)) (by decide) (t := .int) (t' := (.array .int)) (by decide) (by decide))))) (Or.inr (slot_ne (Or.inr (hw _ mm155)) (Or.inr (hw _ mm125)) (by decide) (t := .int) (t' := (.array .int)) (by decide) (by decide))))) (Or.inr (slot_ne (Or.inr (hw _ mm155)) (Or.inr (hw _ mm127)) (by decide) (t := .int) (t' := (.array .int)) (by decide) (by decide))))) (Or.inr (slot_ne (Or.inr (hw _ mm155)) (Or.inr (hw _ mm129)) (by decide) (t := .int) (t' := (.array .int)) (by decide) (by decide)))) (Or.inl ne_a_b3)) (Or.inl ne_a_b7)) (Or.inl ne_a_b29)) (Or.inl ne_a_b42)))) (Or.inl ne_a_b76)) (Or.inl ne_a_b76)) (Or.inl ne_a_b76)).keep K142 (ninS ne_a_b3 (ninS ne_a_b7 (ninS ne_a_b17 (ninS ne_a_b29 (ninS ne_a_b42 nin0)))))) (Or.inl ne_a_b76)) (Or.inl ne_a_b89)).keep K499 (ninS ne_a_b3 (ninS ne_a_b7 (ninS ne_a_b17 (ninS ne_a_b29 (ninS ne_a_b42 nin0))))))
      have c610 := (((c150.other W153 ne_cc0_b76).other W155 ne_cc0_b89).keep K499 (ninS ne_cc0_b3 (ninS ne_cc0_b7 (ninS ne_cc0_b17 (ninS ne_cc0_b29 (ninS ne_cc0_b42 nin0))))))
      have c611 := (c500.keep K499)
      have c612 := (c501.keep K499)
      have c613 := (c502.keep K499)
      have c614 := (c503.keep K499)
      have c615 := (c504.keep K499)
      have c616 := ((Exa.wr W155 (Exa.wr W153 ((Exa.wr W120 (Exa.wr W113 (Exa.wr W105 (Exa.ext E89 Ex76)))).keep K142))).keep K499)
      have c617 := ((Exa.wr W155 (Exa.wr W153 ((Exa.wr W120 (Exa.wr W113 (Exa.wr W105 Ex89))).keep K142))).keep K499)
      exact jJ2 vb (2 : Int32) (-1 : Int32) (1 : Int32) [((2 : Int32), vb), ((1 : Int32), va)] (2 : Int32) T605 T499.heap _ X605 e605 N605 Z499 KK499 c607 c602 c608 c603 c604 c609 c606 c509 c505 c506 c610 c507 c514 c611 c612 c613 c614 c615 c511 c616 c513 c617 f499_0 f499_1 f499_2 f499_3 f499_4  ⟨⟨rfl, ⟨by decide, by decide⟩, rfl, _, rfl, ⟨rfl, ⟨by decide, by decide⟩, rfl, _, rfl, rfl⟩⟩, Nat.le_of_ble_eq_true rfl, (own_q2 ho_va_vb (Or.inr (Eq.symm ho_vb_vc))).1, rfl, (own_q2 ho_va_vb (Or.inr (Eq.symm ho_vb_vc))).2, rfl, ⟨rfl, ⟨by decide, by decide⟩, rfl, _, rfl, rfl⟩, rfl, Or.inr ⟨rfl, Or.inl rfl⟩⟩
    · have ho_vb_vc := hk
      clear hk
      have c618 := (c487.keep K499 (ninS ne_a_b3 (ninS ne_a_b7 (ninS ne_a_b17 (ninS ne_a_b29 (ninS ne_a_b42 nin0))))))
      have c619 := (c488.keep K499 (ninS ne_a_b3 (ninS ne_a_b7 (ninS ne_a_b17 (ninS ne_a_b29 (ninS ne_a_b42 nin0))))))
      have c620 := (c489.keep K499 (ninS ne_a_b3 (ninS ne_a_b7 (ninS ne_a_b17 (ninS ne_a_b29 (ninS ne_a_b42 nin0))))))
      have c622 := (c494.keep K499)
      obtain ⟨cq621, kq621, q621a, q621b, q621c⟩ := isOf hZ e515 c622
      obtain ⟨_, _, ⟨T621, L621, k621, n621⟩, -, X621, ⟨Lc621, hQ621, l621, y621, z621⟩, st621⟩ := X515.virtualBack hx (y := (⟨"com/example/percurso/percurso/suite/PrefixTree", "child", "(II)I"⟩ : MethodName)) (z := (⟨"com/example/percurso/percurso/suite/PrefixTree", "child", "(II)I"⟩ : MethodName)) hown (mvT hZ (hw _ mm145)) (mvT hZ (hw _ mm146)) (notFace_of_selects (args := #[]) (mvT hZ (hw _ mm148))) (mvT hZ (hw _ mm148)) (mvT hZ (hw _ mm147)) (by decide) (backOf (W := 0) (rmCH_2 l Z a0 hw [] a (0 : Int32) vc b7 k7 [(.int (-1)), (.int va), (.int vb), (.int 0), (.int 0)] b29 k29 [(.int 2), (.int (-1)), (.int (-1)), (.int 0), (.int 0)] b42 k42 [(.int (-1)), (.int (-1)), (.int 1), (.int 0), (.int 0)] (2 : Int32) (1 : Int32) vb va T499.heap n0 Z499 c618 c619 c620 f499_1 f499_3 f499_4 ⟨by decide, by decide⟩ rfl ⟨by decide, by decide⟩ rfl rfl ⟨by decide, by decide⟩ rfl rfl) hZ (hw _ mm149) (hw _ mm60) (by decide) (by decide)) q621a q621c (g := (mkF m 217 #[lR a, lR su, lJ 5, lS, lI 5, lI 3, lR b76, lR b89, lI 3, lI 0, lI 1, lI 2, lI 2, lI 0, lI vc, lI 2] [(.int vc), (.int 0), (.ref a)])) rfl (by rw [hml]; rfl) (Steps.refl _) (argsL := [(.int 0), (.int vc)]) (rest := []) (lenOf pd_1 rfl) rfl (by show 2 * 0 + _ ≤ _; exact Nat.le_of_eq rfl) (hb hby d16_217) (fun _ _ => ⟨rfl, e515, (by decide : 7 + 0 ≤ _), (by decide : 31 + 0 ≤ _)⟩)
      dsimp only [Pt.U, Pt.locs, Pt.cells, Pt.slots] at X621 l621 y621 z621 st621 hQ621
      rw [l621, y621, z621] at X621
      obtain ⟨hv621, N621q, e621⟩ := hQ621
      rw [show own_find [((2 : Int32), vb), ((1 : Int32), va)] vc = (-1 : Int32) from (own_find_gt ho_vb_vc)] at hv621
      rw [hv621] at st621
      have N621 := Fr.app N515 N621q
      refine Ds (B := T621.setTop (mkF m 220 #[lR a, lR su, lJ 5, lS, lI 5, lI 3, lR b76, lR b89, lI 3, lI 0, lI 1, lI 2, lI 2, lI 0, lI vc, lI 2] [(.int (-1))])) (fun _ k => st621.trans k) ?_
      refine Ds (B := T621.setTop (mkF m 233 #[lR a, lR su, lJ 5, lS, lI 5, lI 4, lR b76, lR b89, lI 3, lI 0, lI 1, lI 2, lI 2, lI 0, lI vc, lI (-1)] [(.int 3)])) (fun _ k => XS.istore X621.here hx rfl (hb hby d16_220) rfl (l' := #[lR a, lR su, lJ 5, lS, lI 5, lI 3, lR b76, lR b89, lI 3, lI 0, lI 1, lI 2, lI 2, lI 0, lI vc, lI (-1)]) rfl (XS.iload X621.here hx rfl (hb hby d16_222) rfl (XS.iconst X621.here hx rfl (hb hby d16_224) (XS.icmpNo X621.here hx rfl (hb hby d16_225) rfl (teq (rfl : (-1 : Int32) = (-1 : Int32))).2 (XS.iload X621.here hx rfl (hb hby d16_228) rfl (XS.iinc X621.here hx rfl (hb hby d16_230) rfl (l' := #[lR a, lR su, lJ 5, lS, lI 5, lI 4, lR b76, lR b89, lI 3, lI 0, lI 1, lI 2, lI 2, lI 0, lI vc, lI (-1)]) rfl k)))))) ?_
      refine Ds (B := T621.setTop (mkF m 244 #[lR a, lR su, lJ 5, lS, lI 5, lI 4, lR b76, lR b89, lI 3, lI 0, lI 1, lI 2, lI 2, lI 0, lI vc, lI 3] [(.int 0), (.int 3), (.int vc), (.int 0), (.ref a)])) (fun _ k => XS.istore X621.here hx rfl (hb hby d16_233) rfl (l' := #[lR a, lR su, lJ 5, lS, lI 5, lI 4, lR b76, lR b89, lI 3, lI 0, lI 1, lI 2, lI 2, lI 0, lI vc, lI 3]) rfl (XS.aloadN X621.here hx rfl (hb hby d16_235) rfl rfl (XS.iload X621.here hx rfl (hb hby d16_236) rfl (XS.iload X621.here hx rfl (hb hby d16_238) rfl (XS.iload X621.here hx rfl (hb hby d16_240) rfl (XS.iload X621.here hx rfl (hb hby d16_242) rfl k)))))) ?_
      refine Ds (B := T621.setTop (mkF m 246 #[lR a, lR su, lJ 5, lS, lI 5, lI 4, lR b76, lR b89, lI 3, lI 0, lI 1, lI 2, lI 2, lI 0, lI vc, lI 3] [(.int 1), (.int 3), (.int vc), (.int 0), (.ref a)])) (fun _ k => XS.iconst X621.here hx rfl (hb hby d16_244) (XS.iadd X621.here hx rfl (hb hby d16_245) rfl k)) ?_
      have c623 := (c495.keep K499 (ninS ne_a_b3 (ninS ne_a_b7 (ninS ne_a_b17 (ninS ne_a_b29 (ninS ne_a_b42 nin0))))))
      have c624 := (c496.keep K499 (ninS ne_a_b3 (ninS ne_a_b7 (ninS ne_a_b17 (ninS ne_a_b29 (ninS ne_a_b42 nin0))))))
      obtain ⟨cq625, q625, q625'⟩ := c622.cell
      obtain ⟨_, _, ⟨T625, L625, k625, n625⟩, -, X625, ⟨Lc625, hQ625, l625, y625, z625⟩, st625⟩ := X621.privateBack hx (y := (⟨"com/example/percurso/percurso/suite/PrefixTree", "link", "(IIII)V"⟩ : MethodName)) hown (mvT hZ (hw _ mm150)) (mvT hZ (hw _ mm151)) (mvT hZ (own_selp (y := (⟨"com/example/percurso/percurso/suite/PrefixTree", "link", "(IIII)V"⟩ : MethodName)) (hw _ mm59) (hw _ mm152) (hw _ mm151) (by decide))) (Cond.privateMethod_at (mvP hZ (hw _ mm152) (args := #[]))) (mvT hZ (hw _ mm153)) (by decide) (backOf (W := 0) (rmLK_6 l Z a0 hw [] a vc b3 k3 b7 k7 b17 k17 b29 k29 b42 k42 (-1 : Int32) (0 : Int32) (0 : Int32) (0 : Int32) (0 : Int32) (-1 : Int32) va vb (0 : Int32) (0 : Int32) (0 : Int32) (1 : Int32) (1 : Int32) (0 : Int32) (0 : Int32) (-1 : Int32) (-1 : Int32) (0 : Int32) (0 : Int32) (-1 : Int32) (0 : Int32) (0 : Int32) T499.heap n0 Z499 c623 c618 c624 c619 c620 f499_0 f499_1 f499_2 f499_3 f499_4 ge_b3 ge_b7 ge_b17 ge_b29 ge_b42 ne_b3_b7 ne_b3_b17 ne_b3_b29 ne_b3_b42 ne_b7_b17 ne_b7_b29 ne_b7_b42 ne_b17_b29 ne_b17_b42 ne_b29_b42 ne_a_b3 ne_a_b7 ne_a_b17 ne_a_b29 ne_a_b42) hZ (hw _ mm153) (hw _ mm60) (by decide) (by decide)) (g := (mkF m 246 #[lR a, lR su, lJ 5, lS, lI 5, lI 4, lR b76, lR b89, lI 3, lI 0, lI 1, lI 2, lI 2, lI 0, lI vc, lI 3] [(.int 1), (.int 3), (.int vc), (.int 0), (.ref a)])) rfl (by rw [hml]; rfl) (Steps.refl _) (a := a) (by rw [e621]; exact q625) q625' (argsL := [(.int 0), (.int vc), (.int 3), (.int 1)]) (rest := []) (lenOf pd_10 rfl) rfl (by show 2 * 0 + _ ≤ _; exact Nat.le_of_eq rfl) (hb hby d16_246) (fun _ _ => ⟨rfl, e621, (by decide : 7 + 0 ≤ _), (by decide : 31 + 0 ≤ _)⟩)
      dsimp only [Pt.U, Pt.locs, Pt.cells, Pt.slots] at X625 l625 y625 z625 st625 hQ625
      rw [l625, y625, z625] at X625
      have c626 := (c500.keep K499)
      have c627 := (c501.keep K499)
      have c628 := (c502.keep K499)
      have c629 := (c503.keep K499)
      have c630 := (c504.keep K499)
      obtain ⟨hv625, N625q, K625, im625_0, im625_1, im625_2⟩ := hQ625
      rw [hv625] at st625
      have N625 := Fr.app N621 N625q
      have Z625 : n0 ≤ T625.heap.size := Nat.le_trans Z499 K625.1
      have KK625 : Keep h0 T625.heap [a] := (KK499).trans K625 (allS (Or.inr sz_b3) (allS (Or.inr sz_b7) (allS (Or.inr sz_b17) (allS (Or.inr sz_b29) (allS (Or.inr sz_b42) all0)))))
      obtain ⟨f625_0, f625_1, f625_2, f625_3, f625_4⟩ := im625_0 (own_nlt ho_vb_vc)
      refine Ds (B := T625.setTop (mkF m 249 #[lR a, lR su, lJ 5, lS, lI 5, lI 4, lR b76, lR b89, lI 3, lI 0, lI 1, lI 2, lI 2, lI 0, lI vc, lI 3] [])) (fun _ k => st625.trans k) ?_
      have c631 := (c623.keep K625 (ninS ne_a_b3 (ninS ne_a_b7 (ninS ne_a_b17 (ninS ne_a_b29 (ninS ne_a_b42 nin0))))))
      have c632 := (c618.keep K625 (ninS ne_a_b3 (ninS ne_a_b7 (ninS ne_a_b17 (ninS ne_a_b29 (ninS ne_a_b42 nin0))))))
      have c633 := (c624.keep K625 (ninS ne_a_b3 (ninS ne_a_b7 (ninS ne_a_b17 (ninS ne_a_b29 (ninS ne_a_b42 nin0))))))
      have c634 := (c619.keep K625 (ninS ne_a_b3 (ninS ne_a_b7 (ninS ne_a_b17 (ninS ne_a_b29 (ninS ne_a_b42 nin0))))))
      have c635 := (c620.keep K625 (ninS ne_a_b3 (ninS ne_a_b7 (ninS ne_a_b17 (ninS ne_a_b29 (ninS ne_a_b42 nin0))))))
      have c636 := (((Fld.other W155 (Fld.other W153 ((Fld.other W120 (Fld.other W113 (Fld.other W105 (Fld.ext E89 (Fld.ext E76 (Fld.other W70 (Fld.other W66 (Fld.other W62 (Fld.other W58 (Fld.other W55 (Fld.ext E42 (Fld.other W41 (Fld.ext E29 (Fld.other W28 (Fld.ext E17 (Fld.other W16 (Fld.ext E7 (Fld.other W6 (Fld.ext E3 F_size) (Or.inr (slot_ne (Or.inr (hw _ mm155)) (Or.inr (hw _ mm121)) (by decide) (t := .int) (t' := (.array .int)) (by decide) (by decide))))) (Or.inr (slot_ne (Or.inr (hw _ mm155)) (Or.inr (hw _ mm123)) (by decide) (t := .int) (t' := (.array .int)) (by decide) (by decide))))) (Or.inr (slot_ne (Or.inr (hw _ mm155)) (Or.inr (hw _ mm125)) (by decide) (t := .int) (t' := (.array .int)) (by decide) (by decide))))) (Or.inr (slot_ne (Or.inr (hw _ mm155)) (Or.inr (hw _ mm127)) (by decide) (t := .int) (t' := (.array .int)) (by decide) (by decide))))) (Or.inr (slot_ne (Or.inr (hw _ mm155)) (Or.inr (hw _ mm129)) (by decide) (t := .int) (t' := (.array .int)) (by decide) (by decide)))) (Or.inl ne_a_b3)) (Or.inl ne_a_b7)) (Or.inl ne_a_b29)) (Or.inl ne_a_b42)))) (Or.inl ne_a_b76)) (Or.inl ne_a_b76)) (Or.inl ne_a_b76)).keep K142 (ninS ne_a_b3 (ninS ne_a_b7 (ninS ne_a_b17 (ninS ne_a_b29 (ninS ne_a_b42 nin0)))))) (Or.inl ne_a_b76)) (Or.inl ne_a_b89)).keep K499 (ninS ne_a_b3 (ninS ne_a_b7 (ninS ne_a_b17 (ninS ne_a_b29 (ninS ne_a_b42 nin0)))))).keep K625 (ninS ne_a_b3 (ninS ne_a_b7 (ninS ne_a_b17 (ninS ne_a_b29 (ninS ne_a_b42 nin0))))))
      have c637 := (c622.keep K625)
      have c638 := (c509.keep K625)
      have c639 := (c505.keep K625 (ninS ne_su_b3 (ninS ne_su_b7 (ninS ne_su_b17 (ninS ne_su_b29 (ninS ne_su_b42 nin0))))))
      have c640 := (c506.keep K625 (ninS ne_u_b3 (ninS ne_u_b7 (ninS ne_u_b17 (ninS ne_u_b29 (ninS ne_u_b42 nin0))))))
      have c641 := ((((c150.other W153 ne_cc0_b76).other W155 ne_cc0_b89).keep K499 (ninS ne_cc0_b3 (ninS ne_cc0_b7 (ninS ne_cc0_b17 (ninS ne_cc0_b29 (ninS ne_cc0_b42 nin0)))))).keep K625 (ninS ne_cc0_b3 (ninS ne_cc0_b7 (ninS ne_cc0_b17 (ninS ne_cc0_b29 (ninS ne_cc0_b42 nin0))))))
      have c642 := (c507.keep K625 (ninS ne_cc1_b3 (ninS ne_cc1_b7 (ninS ne_cc1_b17 (ninS ne_cc1_b29 (ninS ne_cc1_b42 nin0))))))
      have c643 := (c514.keep K625 (ninS ne_cc2_b3 (ninS ne_cc2_b7 (ninS ne_cc2_b17 (ninS ne_cc2_b29 (ninS ne_cc2_b42 nin0))))))
      have c644 := (c626.keep K625)
      have c645 := (c627.keep K625)
      have c646 := (c628.keep K625)
      have c647 := (c629.keep K625)
      have c648 := (c630.keep K625)
      have c649 := (c511.keep K625 (ninS (Ne.symm ne_b3_b76) (ninS (Ne.symm ne_b7_b76) (ninS (Ne.symm ne_b17_b76) (ninS (Ne.symm ne_b29_b76) (ninS (Ne.symm ne_b42_b76) nin0))))))
      have c650 := (((Exa.wr W155 (Exa.wr W153 ((Exa.wr W120 (Exa.wr W113 (Exa.wr W105 (Exa.ext E89 Ex76)))).keep K142))).keep K499).keep K625)
      have c651 := (c513.keep K625 (ninS (Ne.symm ne_b3_b89) (ninS (Ne.symm ne_b7_b89) (ninS (Ne.symm ne_b17_b89) (ninS (Ne.symm ne_b29_b89) (ninS (Ne.symm ne_b42_b89) nin0))))))
      have c652 := (((Exa.wr W155 (Exa.wr W153 ((Exa.wr W120 (Exa.wr W113 (Exa.wr W105 Ex89))).keep K142))).keep K499).keep K625)
      exact jJ3 vb vc (3 : Int32) (-1 : Int32) (1 : Int32) (2 : Int32) [((3 : Int32), vc), ((2 : Int32), vb), ((1 : Int32), va)] (3 : Int32) T625 T625.heap _ X625 rfl N625 Z625 KK625 c631 c632 c633 c634 c635 c636 c637 c638 c639 c640 c641 c642 c643 c644 c645 c646 c647 c648 c649 c650 c651 c652 f625_0 f625_1 f625_2 f625_3 f625_4  ⟨⟨rfl, ⟨by decide, by decide⟩, rfl, _, rfl, ⟨rfl, ⟨by decide, by decide⟩, rfl, _, rfl, ⟨rfl, ⟨by decide, by decide⟩, rfl, _, rfl, rfl⟩⟩⟩, Nat.le_of_ble_eq_true rfl, (own_cba ho_vb_vc ho_va_vb).1, rfl, (own_cba ho_vb_vc ho_va_vb).2, rfl, ⟨rfl, ⟨by decide, by decide⟩, rfl, _, rfl, rfl⟩, rfl, Or.inr ⟨rfl, Or.inr ⟨rfl, rfl⟩⟩⟩
theorem ef_rm0 (m : MethodId) (x0 : Int32) (x1 : Int32) (x2 : Int32) (x3 : Int32) (x4 : Int32) (x5 : Int32) : entryFrame m #[(.int x0), (.int x1), (.int x2), (.int x3), (.int x4), (.int x5)] maxLocals = mkF m 0 #[lI x0, lI x1, lI x2, lI x3, lI x4, lI x5, lU, lU, lU, lU, lU, lU, lU, lU, lU, lU, lU] [] := by first | (simp [entryFrame, mkF, argsToLocals, Value.category, maxLocals]; done) | rfl
def Qrm0 (Z : State) (x0 : Int32) (x1 : Int32) (x2 : Int32) (x3 : Int32) (x4 : Int32) (x5 : Int32) (w_D : Addr) (kw_D : ClassId) (h0 : Heap) (n0 : Nat) (v : Option Value) (h : Heap) (L : List Loc) : Prop := v = some (.int 1) ∧ Fr n0 L
def Prm0 (s : State) (Z : State) (x0 : Int32) (x1 : Int32) (x2 : Int32) (x3 : Int32) (x4 : Int32) (x5 : Int32) (w_D : Addr) (kw_D : ClassId) (h0 : Heap) (n0 : Nat) : State → Outcome → Prop := fun U' o => ∃ v L, o = .returned v ∧ Qrm0 Z x0 x1 x2 x3 x4 x5 w_D kw_D h0 n0 v U'.heap L ∧ FrameEnd s o U' L room_1.cells room_1.slots
set_option maxRecDepth 65536 in
set_option maxHeartbeats 40000000 in
theorem rm0 (l : Launch) (Z : State) (a0 : Array Value) (hw : ∀ d ∈ tables_1, d.before a0 Z = true) (ws : List Jvm.Cond) (x0 : Int32) (x1 : Int32) (x2 : Int32) (x3 : Int32) (x4 : Int32) (x5 : Int32) (w_D : Addr) (kw_D : ClassId) (h0 : Heap) (n0 : Nat) (Z0 : n0 ≤ h0.size) (S_D : Sta Z h0 "java/util/ArrayList" "DEFAULTCAPACITY_EMPTY_ELEMENTDATA" "[Ljava/lang/Object;" (.ref w_D)) (V_D : Arv Z h0 w_D kw_D (.object "java/lang/Object") (0 : Int32) [] .null) :
    MetFree l x (head1 (Jvm.Cond.code x code maxLocals ret :: ws) room_1) (fun aa U => aa = #[(.int x0), (.int x1), (.int x2), (.int x3), (.int x4), (.int x5)] ∧ Z.Warmed39 U.vm ∧ U.heap = h0) (fun _ _ _ _ _ => True) (fun _ U o U' => ∃ v L, o = .returned v ∧ Qrm0 Z x0 x1 x2 x3 x4 x5 w_D kw_D h0 n0 v U'.heap L ∧ FrameEnd U o U' L room_1.cells room_1.slots) := by
  refine MetFree.of_bodySF (plainFor_of_name pn_7) hisR ?_
  intro p e s m args below meth c s₁ Bd hml0 hP hK
  obtain ⟨rfl, hZ, hh⟩ := hP
  have hx := Bd.exec
  have hlk : meth.locks = false := by first | exact BodyLoose.notSynchronized Bd | exact Body.notSynchronized Bd
  have hby := Bd.bytes
  have hml : c.maxLocals = 17 := hml0
  have hown : s.vm.findClass "com/example/percurso/percurso/suite/PrefixTreeChildPinLaw" = some m.cls := findClass_of_methodNamed Bd.named
  have hnm := (name_of_methodNamed Bd.named Bd.method).1
  have X0 : Stand p l e room_1 s m #[(.int x0), (.int x1), (.int x2), (.int x3), (.int x4), (.int x5)] below meth c s₁ [] 0 0 := Stand.of_body Bd
  have e0 : s₁.heap = h0 := by rw [← hh, Bd.state]; rfl
  have N0 := Fr.nil n0
  show Done p e below (Prm0 s Z x0 x1 x2 x3 x4 x5 w_D kw_D h0 n0) (s₁.setTop (entryFrame m #[(.int x0), (.int x1), (.int x2), (.int x3), (.int x4), (.int x5)] maxLocals))
  refine Ds (B := s₁.setTop (mkF m 0 #[lI x0, lI x1, lI x2, lI x3, lI x4, lI x5, lU, lU, lU, lU, lU, lU, lU, lU, lU, lU, lU] [])) (fun _ k => castTop (ef_rm0 m x0 x1 x2 x3 x4 x5) k) ?_
  obtain ⟨T1, h1, X1, e1, E1, A1, D1, -, st1⟩ := newO X0 hx hZ hown (hw _ mm0) (hw _ mm1) (hw _ mm2) e0 (g := (mkF m 0 #[lI x0, lI x1, lI x2, lI x3, lI x4, lI x5, lU, lU, lU, lU, lU, lU, lU, lU, lU, lU, lU] [])) rfl (hb hby at_0) (by decide) (by decide)
  obtain ⟨b1, g1⟩ : ∃ z, z = h0.size := ⟨_, rfl⟩
  rw [← g1] at A1 D1 st1
  have ne_w_D_b1 : w_D ≠ b1 := Nat.ne_of_lt (Nat.lt_of_lt_of_le V_D.lt (Nat.le_of_eq g1.symm))
  have ge_b1 : n0 ≤ b1 := Nat.le_trans Z0 (Nat.le_of_eq g1.symm)
  have Z1 : n0 ≤ h1.size := Nat.le_trans Z0 E1.1
  have F1_modCount : Fld Z h1 b1 "java/util/AbstractList" "modCount" "I" (.int 0) := D1 (Or.inl (hw _ mm22)) (ty := .int) (by decide)
  have F1_elementData : Fld Z h1 b1 "java/util/ArrayList" "elementData" "[Ljava/lang/Object;" .null := D1 (Or.inl (hw _ mm25)) (ty := (.array (.object "java/lang/Object"))) (by decide)
  have F1_size : Fld Z h1 b1 "java/util/ArrayList" "size" "I" (.int 0) := D1 (Or.inl (hw _ mm35)) (ty := .int) (by decide)
  refine Ds (B := T1.setTop (mkF m 3 #[lI x0, lI x1, lI x2, lI x3, lI x4, lI x5, lU, lU, lU, lU, lU, lU, lU, lU, lU, lU, lU] [(.ref b1)])) (fun _ k => st1 _ k) ?_
  refine Ds (B := T1.setTop (mkF m 4 #[lI x0, lI x1, lI x2, lI x3, lI x4, lI x5, lU, lU, lU, lU, lU, lU, lU, lU, lU, lU, lU] [(.ref b1), (.ref b1)])) (fun _ k => XS.dup X1.here hx rfl (hb hby at_3) rfl rfl k) ?_
  have c2 := (Sta.ext E1 S_D)
  obtain ⟨_, _, ⟨T3, L3, k3, n3⟩, -, X3, ⟨Lc3, hQ3, l3, y3, z3⟩, st3⟩ := X1.specialBack hx (y := (⟨"java/util/ArrayList", "<init>", "()V"⟩ : MethodName)) rfl hown (mvT hZ (hw _ mm3)) (mvT hZ (hw _ mm4)) (mvT hZ (hw _ mm5)) (by decide) (backOf (W := 1) (rm1 l Z a0 hw [] b1 w_D h1 n0 Z1 A1 F1_modCount F1_elementData F1_size ge_b1 c2) hZ (hw _ mm5) (hw _ mm2) (by decide) (by decide)) (g := (mkF m 4 #[lI x0, lI x1, lI x2, lI x3, lI x4, lI x5, lU, lU, lU, lU, lU, lU, lU, lU, lU, lU, lU] [(.ref b1), (.ref b1)])) rfl (by rw [hml]; rfl) (Steps.refl _) (a := b1) (argsL := []) (rest := [(.ref b1)]) (lenOf pd_0 rfl) rfl (by show 2 * 0 + _ ≤ _; exact Nat.le_of_eq rfl) (hb hby at_4) (fun _ _ => ⟨rfl, e1, (by decide : 1 + 0 ≤ _), (by decide : 3 + 0 ≤ _)⟩)
  dsimp only [Pt.U, Pt.locs, Pt.cells, Pt.slots] at X3 l3 y3 z3 st3 hQ3
  rw [l3, y3, z3] at X3
  obtain ⟨hv3, N3q, K3, f3_0, f3_1, f3_2, f3_3⟩ := hQ3
  rw [hv3] at st3
  have N3 := Fr.app N0 N3q
  have Z3 : n0 ≤ T3.heap.size := Nat.le_trans Z1 K3.1
  refine Ds (B := T3.setTop (mkF m 7 #[lI x0, lI x1, lI x2, lI x3, lI x4, lI x5, lU, lU, lU, lU, lU, lU, lU, lU, lU, lU, lU] [(.ref b1)])) (fun _ k => st3.trans k) ?_
  refine Ds (B := T3.setTop (mkF m 9 #[lI x0, lI x1, lI x2, lI x3, lI x4, lI x5, lR b1, lU, lU, lU, lU, lU, lU, lU, lU, lU, lU] [])) (fun _ k => XS.astore X3.here hx rfl (hb hby at_7) rfl rfl (l' := #[lI x0, lI x1, lI x2, lI x3, lI x4, lI x5, lR b1, lU, lU, lU, lU, lU, lU, lU, lU, lU, lU]) rfl k) ?_
  refine Ds (B := T3.setTop (mkF m 12 #[lI x0, lI x1, lI x2, lI x3, lI x4, lI x5, lR b1, lU, lU, lU, lU, lU, lU, lU, lU, lU, lU] [(.int 2), (.ref b1)])) (fun _ k => XS.aload X3.here hx rfl (hb hby at_9) rfl rfl (XS.iconst X3.here hx rfl (hb hby at_11) k)) ?_
  obtain ⟨T4, h4, k4, X4, e4, E4, A4, Ex4, st4⟩ := newPE X3 hx hZ (hw _ (List.mem_of_getElem? (i := 26) rfl)) rfl (g := (mkF m 12 #[lI x0, lI x1, lI x2, lI x3, lI x4, lI x5, lR b1, lU, lU, lU, lU, lU, lU, lU, lU, lU, lU] [(.int 2), (.ref b1)])) rfl (hb hby at_12) rfl (by decide) (cap := 2) (by decide) (by decide) (by decide) (by decide) (ad := "[I") rfl
  have c5 := ((V_D.ext E1).keep K3 (ninS ne_w_D_b1 nin0))
  obtain ⟨b4, g4⟩ : ∃ z, z = T3.heap.size := ⟨_, rfl⟩
  rw [← g4] at A4 Ex4 st4
  have ne_w_D_b4 : w_D ≠ b4 := Nat.ne_of_lt (Nat.lt_of_lt_of_le c5.lt (Nat.le_of_eq g4.symm))
  have ne_b1_b4 : b1 ≠ b4 := Nat.ne_of_lt (Nat.lt_of_lt_of_le f3_0.lt (Nat.le_of_eq g4.symm))
  have ge_b4 : n0 ≤ b4 := Nat.le_trans Z3 (Nat.le_of_eq g4.symm)
  have Z4 : n0 ≤ h4.size := Nat.le_trans Z3 E4.1
  have V4 : Arv Z h4 b4 k4 .int 2 [(.int 0), (.int 0)] (.int 0) := (Arv.new A4 (by decide)).pad (pad_rep [] (.int 0) 2)
  refine Ds (B := T4.setTop (mkF m 14 #[lI x0, lI x1, lI x2, lI x3, lI x4, lI x5, lR b1, lU, lU, lU, lU, lU, lU, lU, lU, lU, lU] [(.ref b4), (.ref b1)])) (fun _ k => st4 _ k) ?_
  refine Ds (B := T4.setTop (mkF m 17 #[lI x0, lI x1, lI x2, lI x3, lI x4, lI x5, lR b1, lU, lU, lU, lU, lU, lU, lU, lU, lU, lU] [(.int x0), (.int 0), (.ref b4), (.ref b4), (.ref b1)])) (fun _ k => XS.dup X4.here hx rfl (hb hby at_14) rfl rfl (XS.iconst X4.here hx rfl (hb hby at_15) (XS.iloadN X4.here hx rfl (hb hby at_16) rfl k))) ?_
  obtain ⟨cl6, Ar6, q6, S6, M6, H6, G6⟩ := id V4
  have hin6 : ¬ ((0 : Int32) < 0 ∨ cl6.slots.size ≤ ((0 : Int32)).toNatClampNeg) := inb_of S6 ⟨by decide, by decide⟩
  obtain ⟨T6, h6, X6, e6, W6, st6⟩ := stI X4 hx hZ e4 Ar6 (j := (0 : Int32)) hin6 (g := (mkF m 17 #[lI x0, lI x1, lI x2, lI x3, lI x4, lI x5, lR b1, lU, lU, lU, lU, lU, lU, lU, lU, lU, lU] [(.int x0), (.int 0), (.ref b4), (.ref b4), (.ref b1)])) rfl rfl (hb hby at_17)
  have V6 : Arv Z h6 b4 k4 .int 2 [(.int x0), (.int 0)] (.int 0) := Arv.set Ar6 q6 S6 M6 H6 G6 rfl W6 0 rfl (Nat.le_of_ble_eq_true rfl)
  have N6 := Fr.snoc X6 N3 ge_b4
  have Z6 : n0 ≤ h6.size := Nat.le_trans Z4 (Keep.of_wr W6).1
  refine Ds (B := T6.setTop (mkF m 18 #[lI x0, lI x1, lI x2, lI x3, lI x4, lI x5, lR b1, lU, lU, lU, lU, lU, lU, lU, lU, lU, lU] [(.ref b4), (.ref b1)])) (fun _ k => st6 _ k) ?_
  refine Ds (B := T6.setTop (mkF m 21 #[lI x0, lI x1, lI x2, lI x3, lI x4, lI x5, lR b1, lU, lU, lU, lU, lU, lU, lU, lU, lU, lU] [(.int x3), (.int 1), (.ref b4), (.ref b4), (.ref b1)])) (fun _ k => XS.dup X6.here hx rfl (hb hby at_18) rfl rfl (XS.iconst X6.here hx rfl (hb hby at_19) (XS.iloadN X6.here hx rfl (hb hby at_20) rfl k))) ?_
  obtain ⟨cl7, Ar7, q7, S7, M7, H7, G7⟩ := id V6
  have hin7 : ¬ ((1 : Int32) < 0 ∨ cl7.slots.size ≤ ((1 : Int32)).toNatClampNeg) := inb_of S7 ⟨by decide, by decide⟩
  obtain ⟨T7, h7, X7, e7, W7, st7⟩ := stI X6 hx hZ e6 Ar7 (j := (1 : Int32)) hin7 (g := (mkF m 21 #[lI x0, lI x1, lI x2, lI x3, lI x4, lI x5, lR b1, lU, lU, lU, lU, lU, lU, lU, lU, lU, lU] [(.int x3), (.int 1), (.ref b4), (.ref b4), (.ref b1)])) rfl rfl (hb hby at_21)
  have V7 : Arv Z h7 b4 k4 .int 2 [(.int x0), (.int x3)] (.int 0) := Arv.set Ar7 q7 S7 M7 H7 G7 rfl W7 1 rfl (Nat.le_of_ble_eq_true rfl)
  have N7 := Fr.snoc X7 N6 ge_b4
  have Z7 : n0 ≤ h7.size := Nat.le_trans Z6 (Keep.of_wr W7).1
  refine Ds (B := T7.setTop (mkF m 22 #[lI x0, lI x1, lI x2, lI x3, lI x4, lI x5, lR b1, lU, lU, lU, lU, lU, lU, lU, lU, lU, lU] [(.ref b4), (.ref b1)])) (fun _ k => st7 _ k) ?_
  have c8 := (Exa.wr W7 (Exa.wr W6 (Exa.ext E4 f3_0)))
  have c9 := (Fld.other W7 (Fld.other W6 (Fld.ext E4 f3_1) (Or.inl ne_b1_b4)) (Or.inl ne_b1_b4))
  have c10 := (Fld.other W7 (Fld.other W6 (Fld.ext E4 f3_2) (Or.inl ne_b1_b4)) (Or.inl ne_b1_b4))
  have c11 := (Fld.other W7 (Fld.other W6 (Fld.ext E4 f3_3) (Or.inl ne_b1_b4)) (Or.inl ne_b1_b4))
  have c12 := (Sta.wr W7 (Sta.wr W6 (Sta.ext E4 (own_sta_keep c2 K3 (allS (own_ns_exa A1) all0)))))
  have c13 := (((c5.ext E4).other W6 ne_w_D_b4).other W7 ne_w_D_b4)
  have c14 := (Exa.wr W7 (Exa.wr W6 Ex4))
  obtain ⟨cq15, kq15, q15a, q15b, q15c⟩ := isOf hZ e7 c8
  obtain ⟨_, _, ⟨T15, L15, k15, n15⟩, -, X15, ⟨Lc15, hQ15, l15, y15, z15⟩, st15⟩ := X7.virtualBack hx (y := (⟨"java/util/ArrayList", "add", "(Ljava/lang/Object;)Z"⟩ : MethodName)) (z := (⟨"java/util/ArrayList", "add", "(Ljava/lang/Object;)Z"⟩ : MethodName)) hown (mvT hZ (hw _ mm27)) (mvT hZ (hw _ mm28)) (notFace_of_selects (args := #[]) (mvT hZ (hw _ mm30))) (mvT hZ (hw _ mm30)) (mvT hZ (hw _ mm29)) (by decide) (backOf (W := 0) (rmA1_0 l Z a0 hw [] b1 b4 (0 : Int32) w_D kw_D h7 n0 Z7 c8 c9 c10 c11 ge_b1 c12 c13 (Ne.symm ne_w_D_b1) c14) hZ (hw _ mm31) (hw _ mm2) (by decide) (by decide)) q15a q15c (g := (mkF m 22 #[lI x0, lI x1, lI x2, lI x3, lI x4, lI x5, lR b1, lU, lU, lU, lU, lU, lU, lU, lU, lU, lU] [(.ref b4), (.ref b1)])) rfl (by rw [hml]; rfl) (Steps.refl _) (argsL := [(.ref b4)]) (rest := []) (lenOf pd_11 rfl) rfl (by show 2 * 0 + _ ≤ _; exact Nat.le_of_eq rfl) (hb hby at_22) (fun _ _ => ⟨rfl, e7, (by decide : 2 + 1 ≤ _), (by decide : 5 + 10 ≤ _)⟩)
  dsimp only [Pt.U, Pt.locs, Pt.cells, Pt.slots] at X15 l15 y15 z15 st15 hQ15
  rw [l15, y15, z15] at X15
  obtain ⟨g, kg, hv15, N15q, K15, f15_0, O_g, f15_2, f15_3, f15_4, f15_5, f15_6⟩ := hQ15
  rw [hv15] at st15
  have N15 := Fr.app N7 N15q
  have ne_w_D_g : w_D ≠ g := Nat.ne_of_lt (Nat.lt_of_lt_of_le c13.lt f15_0)
  have ne_b1_g : b1 ≠ g := Nat.ne_of_lt (Nat.lt_of_lt_of_le c8.lt f15_0)
  have ne_b4_g : b4 ≠ g := Nat.ne_of_lt (Nat.lt_of_lt_of_le V7.lt f15_0)
  have ge_g : n0 ≤ g := Nat.le_trans Z7 f15_0
  have Z15 : n0 ≤ T15.heap.size := Nat.le_trans Z7 K15.1
  refine Ds (B := T15.setTop (mkF m 25 #[lI x0, lI x1, lI x2, lI x3, lI x4, lI x5, lR b1, lU, lU, lU, lU, lU, lU, lU, lU, lU, lU] [(.int 1)])) (fun _ k => st15.trans k) ?_
  refine Ds (B := T15.setTop (mkF m 29 #[lI x0, lI x1, lI x2, lI x3, lI x4, lI x5, lR b1, lU, lU, lU, lU, lU, lU, lU, lU, lU, lU] [(.int 1), (.ref b1)])) (fun _ k => XS.pop X15.here hx rfl (hb hby at_25) rfl rfl (XS.aload X15.here hx rfl (hb hby at_26) rfl rfl (XS.iconst X15.here hx rfl (hb hby at_28) k))) ?_
  obtain ⟨T16, h16, k16, X16, e16, E16, A16, Ex16, st16⟩ := newPE X15 hx hZ (hw _ (List.mem_of_getElem? (i := 26) rfl)) rfl (g := (mkF m 29 #[lI x0, lI x1, lI x2, lI x3, lI x4, lI x5, lR b1, lU, lU, lU, lU, lU, lU, lU, lU, lU, lU] [(.int 1), (.ref b1)])) rfl (hb hby at_29) rfl (by decide) (cap := 1) (by decide) (by decide) (by decide) (by decide) (ad := "[I") rfl
  have c17 := (c13.keep K15 (ninS ne_w_D_b1 nin0))
  have c18 := (V7.keep K15 (ninS (Ne.symm ne_b1_b4) nin0))
  obtain ⟨b16, g16⟩ : ∃ z, z = T15.heap.size := ⟨_, rfl⟩
  rw [← g16] at A16 Ex16 st16
  have ne_w_D_b16 : w_D ≠ b16 := Nat.ne_of_lt (Nat.lt_of_lt_of_le c17.lt (Nat.le_of_eq g16.symm))
  have ne_b1_b16 : b1 ≠ b16 := Nat.ne_of_lt (Nat.lt_of_lt_of_le f15_2.lt (Nat.le_of_eq g16.symm))
  have ne_b4_b16 : b4 ≠ b16 := Nat.ne_of_lt (Nat.lt_of_lt_of_le c18.lt (Nat.le_of_eq g16.symm))
  have ne_g_b16 : g ≠ b16 := Nat.ne_of_lt (Nat.lt_of_lt_of_le f15_6.lt (Nat.le_of_eq g16.symm))
  have ge_b16 : n0 ≤ b16 := Nat.le_trans Z15 (Nat.le_of_eq g16.symm)
  have Z16 : n0 ≤ h16.size := Nat.le_trans Z15 E16.1
  have V16 : Arv Z h16 b16 k16 .int 1 [(.int 0)] (.int 0) := (Arv.new A16 (by decide)).pad (pad_rep [] (.int 0) 1)
  refine Ds (B := T16.setTop (mkF m 31 #[lI x0, lI x1, lI x2, lI x3, lI x4, lI x5, lR b1, lU, lU, lU, lU, lU, lU, lU, lU, lU, lU] [(.ref b16), (.ref b1)])) (fun _ k => st16 _ k) ?_
  refine Ds (B := T16.setTop (mkF m 34 #[lI x0, lI x1, lI x2, lI x3, lI x4, lI x5, lR b1, lU, lU, lU, lU, lU, lU, lU, lU, lU, lU] [(.int x1), (.int 0), (.ref b16), (.ref b16), (.ref b1)])) (fun _ k => XS.dup X16.here hx rfl (hb hby at_31) rfl rfl (XS.iconst X16.here hx rfl (hb hby at_32) (XS.iloadN X16.here hx rfl (hb hby at_33) rfl k))) ?_
  obtain ⟨cl19, Ar19, q19, S19, M19, H19, G19⟩ := id V16
  have hin19 : ¬ ((0 : Int32) < 0 ∨ cl19.slots.size ≤ ((0 : Int32)).toNatClampNeg) := inb_of S19 ⟨by decide, by decide⟩
  obtain ⟨T19, h19, X19, e19, W19, st19⟩ := stI X16 hx hZ e16 Ar19 (j := (0 : Int32)) hin19 (g := (mkF m 34 #[lI x0, lI x1, lI x2, lI x3, lI x4, lI x5, lR b1, lU, lU, lU, lU, lU, lU, lU, lU, lU, lU] [(.int x1), (.int 0), (.ref b16), (.ref b16), (.ref b1)])) rfl rfl (hb hby at_34)
  have V19 : Arv Z h19 b16 k16 .int 1 [(.int x1)] (.int 0) := Arv.set Ar19 q19 S19 M19 H19 G19 rfl W19 0 rfl (Nat.le_of_ble_eq_true rfl)
  have N19 := Fr.snoc X19 N15 ge_b16
  have Z19 : n0 ≤ h19.size := Nat.le_trans Z16 (Keep.of_wr W19).1
  refine Ds (B := T19.setTop (mkF m 35 #[lI x0, lI x1, lI x2, lI x3, lI x4, lI x5, lR b1, lU, lU, lU, lU, lU, lU, lU, lU, lU, lU] [(.ref b16), (.ref b1)])) (fun _ k => st19 _ k) ?_
  have c20 := (Exa.wr W19 (Exa.ext E16 f15_2))
  have c21 := (Fld.other W19 (Fld.ext E16 f15_3) (Or.inl ne_b1_b16))
  have c22 := (Fld.other W19 (Fld.ext E16 f15_4) (Or.inl ne_b1_b16))
  have c23 := (Fld.other W19 (Fld.ext E16 f15_5) (Or.inl ne_b1_b16))
  have c24 := ((f15_6.ext E16).other W19 ne_g_b16)
  have c25 := (Exa.wr W19 Ex16)
  obtain ⟨cq26, kq26, q26a, q26b, q26c⟩ := isOf hZ e19 c20
  obtain ⟨_, _, ⟨T26, L26, k26, n26⟩, -, X26, ⟨Lc26, hQ26, l26, y26, z26⟩, st26⟩ := X19.virtualBack hx (y := (⟨"java/util/ArrayList", "add", "(Ljava/lang/Object;)Z"⟩ : MethodName)) (z := (⟨"java/util/ArrayList", "add", "(Ljava/lang/Object;)Z"⟩ : MethodName)) hown (mvT hZ (hw _ mm27)) (mvT hZ (hw _ mm28)) (notFace_of_selects (args := #[]) (mvT hZ (hw _ mm30))) (mvT hZ (hw _ mm30)) (mvT hZ (hw _ mm29)) (by decide) (backOf (W := 0) (rmA1_1 l Z a0 hw [] b1 b16 g ((0 : Int32) + (1 : Int32)) kg b4 h19 n0 Z19 c20 c21 c22 c23 ge_b1 c24 O_g ge_g ne_b1_g c25) hZ (hw _ mm31) (hw _ mm2) (by decide) (by decide)) q26a q26c (g := (mkF m 35 #[lI x0, lI x1, lI x2, lI x3, lI x4, lI x5, lR b1, lU, lU, lU, lU, lU, lU, lU, lU, lU, lU] [(.ref b16), (.ref b1)])) rfl (by rw [hml]; rfl) (Steps.refl _) (argsL := [(.ref b16)]) (rest := []) (lenOf pd_11 rfl) rfl (by show 2 * 0 + _ ≤ _; exact Nat.le_of_eq rfl) (hb hby at_35) (fun _ _ => ⟨rfl, e19, (by decide : 4 + 0 ≤ _), (by decide : 16 + 0 ≤ _)⟩)
  dsimp only [Pt.U, Pt.locs, Pt.cells, Pt.slots] at X26 l26 y26 z26 st26 hQ26
  rw [l26, y26, z26] at X26
  obtain ⟨hv26, N26q, K26, f26_0, f26_1, f26_2, f26_3, f26_4⟩ := hQ26
  rw [hv26] at st26
  have N26 := Fr.app N19 N26q
  have Z26 : n0 ≤ T26.heap.size := Nat.le_trans Z19 K26.1
  refine Ds (B := T26.setTop (mkF m 38 #[lI x0, lI x1, lI x2, lI x3, lI x4, lI x5, lR b1, lU, lU, lU, lU, lU, lU, lU, lU, lU, lU] [(.int 1)])) (fun _ k => st26.trans k) ?_
  refine Ds (B := T26.setTop (mkF m 42 #[lI x0, lI x1, lI x2, lI x3, lI x4, lI x5, lR b1, lU, lU, lU, lU, lU, lU, lU, lU, lU, lU] [(.int 1), (.ref b1)])) (fun _ k => XS.pop X26.here hx rfl (hb hby at_38) rfl rfl (XS.aload X26.here hx rfl (hb hby at_39) rfl rfl (XS.iconst X26.here hx rfl (hb hby at_41) k))) ?_
  obtain ⟨T27, h27, k27, X27, e27, E27, A27, Ex27, st27⟩ := newPE X26 hx hZ (hw _ (List.mem_of_getElem? (i := 26) rfl)) rfl (g := (mkF m 42 #[lI x0, lI x1, lI x2, lI x3, lI x4, lI x5, lR b1, lU, lU, lU, lU, lU, lU, lU, lU, lU, lU] [(.int 1), (.ref b1)])) rfl (hb hby at_42) rfl (by decide) (cap := 1) (by decide) (by decide) (by decide) (by decide) (ad := "[I") rfl
  have c28 := (((c17.ext E16).other W19 ne_w_D_b16).keep K26 (ninS ne_w_D_b1 (ninS ne_w_D_g nin0)))
  have c29 := (((c18.ext E16).other W19 ne_b4_b16).keep K26 (ninS (Ne.symm ne_b1_b4) (ninS ne_b4_g nin0)))
  have c30 := (V19.keep K26 (ninS (Ne.symm ne_b1_b16) (ninS (Ne.symm ne_g_b16) nin0)))
  obtain ⟨b27, g27⟩ : ∃ z, z = T26.heap.size := ⟨_, rfl⟩
  rw [← g27] at A27 Ex27 st27
  have ne_w_D_b27 : w_D ≠ b27 := Nat.ne_of_lt (Nat.lt_of_lt_of_le c28.lt (Nat.le_of_eq g27.symm))
  have ne_b1_b27 : b1 ≠ b27 := Nat.ne_of_lt (Nat.lt_of_lt_of_le f26_0.lt (Nat.le_of_eq g27.symm))
  have ne_b4_b27 : b4 ≠ b27 := Nat.ne_of_lt (Nat.lt_of_lt_of_le c29.lt (Nat.le_of_eq g27.symm))
  have ne_b16_b27 : b16 ≠ b27 := Nat.ne_of_lt (Nat.lt_of_lt_of_le c30.lt (Nat.le_of_eq g27.symm))
  have ne_g_b27 : g ≠ b27 := Nat.ne_of_lt (Nat.lt_of_lt_of_le f26_4.lt (Nat.le_of_eq g27.symm))
  have ge_b27 : n0 ≤ b27 := Nat.le_trans Z26 (Nat.le_of_eq g27.symm)
  have Z27 : n0 ≤ h27.size := Nat.le_trans Z26 E27.1
  have V27 : Arv Z h27 b27 k27 .int 1 [(.int 0)] (.int 0) := (Arv.new A27 (by decide)).pad (pad_rep [] (.int 0) 1)
  refine Ds (B := T27.setTop (mkF m 44 #[lI x0, lI x1, lI x2, lI x3, lI x4, lI x5, lR b1, lU, lU, lU, lU, lU, lU, lU, lU, lU, lU] [(.ref b27), (.ref b1)])) (fun _ k => st27 _ k) ?_
  refine Ds (B := T27.setTop (mkF m 47 #[lI x0, lI x1, lI x2, lI x3, lI x4, lI x5, lR b1, lU, lU, lU, lU, lU, lU, lU, lU, lU, lU] [(.int x2), (.int 0), (.ref b27), (.ref b27), (.ref b1)])) (fun _ k => XS.dup X27.here hx rfl (hb hby at_44) rfl rfl (XS.iconst X27.here hx rfl (hb hby at_45) (XS.iloadN X27.here hx rfl (hb hby at_46) rfl k))) ?_
  obtain ⟨cl31, Ar31, q31, S31, M31, H31, G31⟩ := id V27
  have hin31 : ¬ ((0 : Int32) < 0 ∨ cl31.slots.size ≤ ((0 : Int32)).toNatClampNeg) := inb_of S31 ⟨by decide, by decide⟩
  obtain ⟨T31, h31, X31, e31, W31, st31⟩ := stI X27 hx hZ e27 Ar31 (j := (0 : Int32)) hin31 (g := (mkF m 47 #[lI x0, lI x1, lI x2, lI x3, lI x4, lI x5, lR b1, lU, lU, lU, lU, lU, lU, lU, lU, lU, lU] [(.int x2), (.int 0), (.ref b27), (.ref b27), (.ref b1)])) rfl rfl (hb hby at_47)
  have V31 : Arv Z h31 b27 k27 .int 1 [(.int x2)] (.int 0) := Arv.set Ar31 q31 S31 M31 H31 G31 rfl W31 0 rfl (Nat.le_of_ble_eq_true rfl)
  have N31 := Fr.snoc X31 N26 ge_b27
  have Z31 : n0 ≤ h31.size := Nat.le_trans Z27 (Keep.of_wr W31).1
  refine Ds (B := T31.setTop (mkF m 48 #[lI x0, lI x1, lI x2, lI x3, lI x4, lI x5, lR b1, lU, lU, lU, lU, lU, lU, lU, lU, lU, lU] [(.ref b27), (.ref b1)])) (fun _ k => st31 _ k) ?_
  have c32 := (Exa.wr W31 (Exa.ext E27 f26_0))
  have c33 := (Fld.other W31 (Fld.ext E27 f26_1) (Or.inl ne_b1_b27))
  have c34 := (Fld.other W31 (Fld.ext E27 f26_2) (Or.inl ne_b1_b27))
  have c35 := (Fld.other W31 (Fld.ext E27 f26_3) (Or.inl ne_b1_b27))
  have c36 := ((f26_4.ext E27).other W31 ne_g_b27)
  have c37 := (Exa.wr W31 Ex27)
  obtain ⟨cq38, kq38, q38a, q38b, q38c⟩ := isOf hZ e31 c32
  obtain ⟨_, _, ⟨T38, L38, k38, n38⟩, -, X38, ⟨Lc38, hQ38, l38, y38, z38⟩, st38⟩ := X31.virtualBack hx (y := (⟨"java/util/ArrayList", "add", "(Ljava/lang/Object;)Z"⟩ : MethodName)) (z := (⟨"java/util/ArrayList", "add", "(Ljava/lang/Object;)Z"⟩ : MethodName)) hown (mvT hZ (hw _ mm27)) (mvT hZ (hw _ mm28)) (notFace_of_selects (args := #[]) (mvT hZ (hw _ mm30))) (mvT hZ (hw _ mm30)) (mvT hZ (hw _ mm29)) (by decide) (backOf (W := 0) (rmA1_2 l Z a0 hw [] b1 b27 g (((0 : Int32) + (1 : Int32)) + (1 : Int32)) kg b4 b16 h31 n0 Z31 c32 c33 c34 c35 ge_b1 c36 O_g ge_g ne_b1_g c37) hZ (hw _ mm31) (hw _ mm2) (by decide) (by decide)) q38a q38c (g := (mkF m 48 #[lI x0, lI x1, lI x2, lI x3, lI x4, lI x5, lR b1, lU, lU, lU, lU, lU, lU, lU, lU, lU, lU] [(.ref b27), (.ref b1)])) rfl (by rw [hml]; rfl) (Steps.refl _) (argsL := [(.ref b27)]) (rest := []) (lenOf pd_11 rfl) rfl (by show 2 * 0 + _ ≤ _; exact Nat.le_of_eq rfl) (hb hby at_48) (fun _ _ => ⟨rfl, e31, (by decide : 5 + 0 ≤ _), (by decide : 17 + 0 ≤ _)⟩)
  dsimp only [Pt.U, Pt.locs, Pt.cells, Pt.slots] at X38 l38 y38 z38 st38 hQ38
  rw [l38, y38, z38] at X38
  obtain ⟨hv38, N38q, K38, f38_0, f38_1, f38_2, f38_3, f38_4⟩ := hQ38
  rw [hv38] at st38
  have N38 := Fr.app N31 N38q
  have Z38 : n0 ≤ T38.heap.size := Nat.le_trans Z31 K38.1
  refine Ds (B := T38.setTop (mkF m 51 #[lI x0, lI x1, lI x2, lI x3, lI x4, lI x5, lR b1, lU, lU, lU, lU, lU, lU, lU, lU, lU, lU] [(.int 1)])) (fun _ k => st38.trans k) ?_
  refine Ds (B := T38.setTop (mkF m 52 #[lI x0, lI x1, lI x2, lI x3, lI x4, lI x5, lR b1, lU, lU, lU, lU, lU, lU, lU, lU, lU, lU] [])) (fun _ k => XS.pop X38.here hx rfl (hb hby at_51) rfl rfl k) ?_
  obtain ⟨T39, h39, X39, e39, E39, A39, D39, -, st39⟩ := newO X38 hx hZ hown (hw _ mm58) (hw _ mm59) (hw _ mm60) rfl (g := (mkF m 52 #[lI x0, lI x1, lI x2, lI x3, lI x4, lI x5, lR b1, lU, lU, lU, lU, lU, lU, lU, lU, lU, lU] [])) rfl (hb hby at_52) (by decide) (by decide)
  have c40 := (((c28.ext E27).other W31 ne_w_D_b27).keep K38 (ninS ne_w_D_b1 (ninS ne_w_D_g nin0)))
  have c41 := (((c29.ext E27).other W31 ne_b4_b27).keep K38 (ninS (Ne.symm ne_b1_b4) (ninS ne_b4_g nin0)))
  have c42 := (((c30.ext E27).other W31 ne_b16_b27).keep K38 (ninS (Ne.symm ne_b1_b16) (ninS (Ne.symm ne_g_b16) nin0)))
  have c43 := (V31.keep K38 (ninS (Ne.symm ne_b1_b27) (ninS (Ne.symm ne_g_b27) nin0)))
  obtain ⟨b39, g39⟩ : ∃ z, z = T38.heap.size := ⟨_, rfl⟩
  rw [← g39] at A39 D39 st39
  have ne_w_D_b39 : w_D ≠ b39 := Nat.ne_of_lt (Nat.lt_of_lt_of_le c40.lt (Nat.le_of_eq g39.symm))
  have ne_b1_b39 : b1 ≠ b39 := Nat.ne_of_lt (Nat.lt_of_lt_of_le f38_0.lt (Nat.le_of_eq g39.symm))
  have ne_b4_b39 : b4 ≠ b39 := Nat.ne_of_lt (Nat.lt_of_lt_of_le c41.lt (Nat.le_of_eq g39.symm))
  have ne_b16_b39 : b16 ≠ b39 := Nat.ne_of_lt (Nat.lt_of_lt_of_le c42.lt (Nat.le_of_eq g39.symm))
  have ne_b27_b39 : b27 ≠ b39 := Nat.ne_of_lt (Nat.lt_of_lt_of_le c43.lt (Nat.le_of_eq g39.symm))
  have ne_g_b39 : g ≠ b39 := Nat.ne_of_lt (Nat.lt_of_lt_of_le f38_4.lt (Nat.le_of_eq g39.symm))
  have ge_b39 : n0 ≤ b39 := Nat.le_trans Z38 (Nat.le_of_eq g39.symm)
  have Z39 : n0 ≤ h39.size := Nat.le_trans Z38 E39.1
  have F39_parents : Fld Z h39 b39 "com/example/percurso/percurso/suite/PrefixTree" "parents" "[I" .null := D39 (Or.inr (hw _ mm121)) (ty := (.array .int)) (by decide)
  have F39_inputs : Fld Z h39 b39 "com/example/percurso/percurso/suite/PrefixTree" "inputs" "[I" .null := D39 (Or.inr (hw _ mm123)) (ty := (.array .int)) (by decide)
  have F39_depths : Fld Z h39 b39 "com/example/percurso/percurso/suite/PrefixTree" "depths" "[I" .null := D39 (Or.inr (hw _ mm125)) (ty := (.array .int)) (by decide)
  have F39_firstChildren : Fld Z h39 b39 "com/example/percurso/percurso/suite/PrefixTree" "firstChildren" "[I" .null := D39 (Or.inr (hw _ mm127)) (ty := (.array .int)) (by decide)
  have F39_nextSiblings : Fld Z h39 b39 "com/example/percurso/percurso/suite/PrefixTree" "nextSiblings" "[I" .null := D39 (Or.inr (hw _ mm129)) (ty := (.array .int)) (by decide)
  have F39_size : Fld Z h39 b39 "com/example/percurso/percurso/suite/PrefixTree" "size" "I" (.int 0) := D39 (Or.inr (hw _ mm155)) (ty := .int) (by decide)
  refine Ds (B := T39.setTop (mkF m 55 #[lI x0, lI x1, lI x2, lI x3, lI x4, lI x5, lR b1, lU, lU, lU, lU, lU, lU, lU, lU, lU, lU] [(.ref b39)])) (fun _ k => st39 _ k) ?_
  refine Ds (B := T39.setTop (mkF m 56 #[lI x0, lI x1, lI x2, lI x3, lI x4, lI x5, lR b1, lU, lU, lU, lU, lU, lU, lU, lU, lU, lU] [(.ref b39), (.ref b39)])) (fun _ k => XS.dup X39.here hx rfl (hb hby at_55) rfl rfl k) ?_
  obtain ⟨T44, h44, X44, e44, E44, A44, D44, -, st44⟩ := newO X39 hx hZ hown (hw _ mm61) (hw _ mm62) (hw _ mm63) e39 (g := (mkF m 56 #[lI x0, lI x1, lI x2, lI x3, lI x4, lI x5, lR b1, lU, lU, lU, lU, lU, lU, lU, lU, lU, lU] [(.ref b39), (.ref b39)])) rfl (hb hby at_56) (by decide) (by decide)
  have c45 := (c40.ext E39)
  have c46 := (Exa.ext E39 f38_0)
  have c47 := (c41.ext E39)
  have c48 := (c42.ext E39)
  have c49 := (c43.ext E39)
  have c50 := (f38_4.ext E39)
  obtain ⟨b44, g44⟩ : ∃ z, z = h39.size := ⟨_, rfl⟩
  rw [← g44] at A44 D44 st44
  have ne_w_D_b44 : w_D ≠ b44 := Nat.ne_of_lt (Nat.lt_of_lt_of_le c45.lt (Nat.le_of_eq g44.symm))
  have ne_b1_b44 : b1 ≠ b44 := Nat.ne_of_lt (Nat.lt_of_lt_of_le c46.lt (Nat.le_of_eq g44.symm))
  have ne_b4_b44 : b4 ≠ b44 := Nat.ne_of_lt (Nat.lt_of_lt_of_le c47.lt (Nat.le_of_eq g44.symm))
  have ne_b16_b44 : b16 ≠ b44 := Nat.ne_of_lt (Nat.lt_of_lt_of_le c48.lt (Nat.le_of_eq g44.symm))
  have ne_b27_b44 : b27 ≠ b44 := Nat.ne_of_lt (Nat.lt_of_lt_of_le c49.lt (Nat.le_of_eq g44.symm))
  have ne_g_b44 : g ≠ b44 := Nat.ne_of_lt (Nat.lt_of_lt_of_le c50.lt (Nat.le_of_eq g44.symm))
  have ne_b39_b44 : b39 ≠ b44 := Nat.ne_of_lt (Nat.lt_of_lt_of_le A39.lt (Nat.le_of_eq g44.symm))
  have ge_b44 : n0 ≤ b44 := Nat.le_trans Z39 (Nat.le_of_eq g44.symm)
  have Z44 : n0 ≤ h44.size := Nat.le_trans Z39 E44.1
  have F44_tests : Fld Z h44 b44 "com/example/percurso/percurso/suite/Suite" "tests" "[[I" .null := D44 (Or.inr (hw _ mm80)) (ty := (.array (.array .int))) (by decide)
  refine Ds (B := T44.setTop (mkF m 59 #[lI x0, lI x1, lI x2, lI x3, lI x4, lI x5, lR b1, lU, lU, lU, lU, lU, lU, lU, lU, lU, lU] [(.ref b44), (.ref b39), (.ref b39)])) (fun _ k => st44 _ k) ?_
  refine Ds (B := T44.setTop (mkF m 62 #[lI x0, lI x1, lI x2, lI x3, lI x4, lI x5, lR b1, lU, lU, lU, lU, lU, lU, lU, lU, lU, lU] [(.ref b1), (.ref b44), (.ref b44), (.ref b39), (.ref b39)])) (fun _ k => XS.dup X44.here hx rfl (hb hby at_59) rfl rfl (XS.aload X44.here hx rfl (hb hby at_60) rfl rfl k)) ?_
  have c51 := (Exa.ext E44 c46)
  have c52 := (Fld.ext E44 (Fld.ext E39 f38_1))
  have c53 := (Fld.ext E44 (Fld.ext E39 f38_2))
  have c54 := (Fld.ext E44 (Fld.ext E39 f38_3))
  have c55 := (c50.ext E44)
  have c56 := (Exa.ext E44 (Exa.ext E39 ((Exa.wr W31 (Exa.ext E27 ((Exa.wr W19 (Exa.ext E16 (c14.keep K15))).keep K26))).keep K38)))
  have c57 := (c47.ext E44)
  have c58 := (Exa.ext E44 (Exa.ext E39 ((Exa.wr W31 (Exa.ext E27 (c25.keep K26))).keep K38)))
  have c59 := (c48.ext E44)
  have c60 := (Exa.ext E44 (Exa.ext E39 (c37.keep K38)))
  have c61 := (c49.ext E44)
  obtain ⟨_, _, ⟨T62, L62, k62, n62⟩, -, X62, ⟨Lc62, hQ62, l62, y62, z62⟩, st62⟩ := X44.specialBack hx (y := (⟨"com/example/percurso/percurso/suite/Suite", "<init>", "(Ljava/util/List;)V"⟩ : MethodName)) rfl hown (mvT hZ (hw _ mm64)) (mvT hZ (hw _ mm65)) (mvT hZ (hw _ mm66)) (by decide) (backOf (W := 3) (rm10 l Z a0 hw [] b44 b1 ((((0 : Int32) + (1 : Int32)) + (1 : Int32)) + (1 : Int32)) g kg b4 b16 b27 k4 k16 k27 x0 x1 x2 x3 h44 n0 Z44 F44_tests A44 ge_b44 c51 c52 c53 c54 c55 c56 c57 c58 c59 c60 c61 (Ne.symm ne_b1_b44) (Ne.symm ne_g_b44) (Ne.symm ne_b4_b44) (Ne.symm ne_b16_b44) (Ne.symm ne_b27_b44)) hZ (hw _ mm66) (hw _ mm63) (by decide) (by decide)) (g := (mkF m 62 #[lI x0, lI x1, lI x2, lI x3, lI x4, lI x5, lR b1, lU, lU, lU, lU, lU, lU, lU, lU, lU, lU] [(.ref b1), (.ref b44), (.ref b44), (.ref b39), (.ref b39)])) rfl (by rw [hml]; rfl) (Steps.refl _) (a := b44) (argsL := [(.ref b1)]) (rest := [(.ref b44), (.ref b39), (.ref b39)]) (lenOf pd_12 rfl) rfl (by show 2 * 0 + _ ≤ _; exact Nat.le_of_eq rfl) (hb hby at_62) (fun _ _ => ⟨rfl, e44, (by decide : 7 + 4 ≤ _), (by decide : 24 + 7 ≤ _)⟩)
  dsimp only [Pt.U, Pt.locs, Pt.cells, Pt.slots] at X62 l62 y62 z62 st62 hQ62
  rw [l62, y62, z62] at X62
  have c63 := (c45.ext E44)
  have c64 := (Exa.ext E44 A39)
  obtain ⟨u, ku, cc0, cc1, cc2, hv62, N62q, K62, f62_0, f62_1, f62_2, f62_3, f62_4, f62_5, f62_6, f62_7, f62_8, f62_9⟩ := hQ62
  rw [hv62] at st62
  have N62 := Fr.app N38 N62q
  have ne_w_D_u : w_D ≠ u := Nat.ne_of_lt (Nat.lt_of_lt_of_le c63.lt f62_0)
  have ne_b1_u : b1 ≠ u := Nat.ne_of_lt (Nat.lt_of_lt_of_le c51.lt f62_0)
  have ne_b4_u : b4 ≠ u := Nat.ne_of_lt (Nat.lt_of_lt_of_le c57.lt f62_0)
  have ne_b16_u : b16 ≠ u := Nat.ne_of_lt (Nat.lt_of_lt_of_le c59.lt f62_0)
  have ne_b27_u : b27 ≠ u := Nat.ne_of_lt (Nat.lt_of_lt_of_le c61.lt f62_0)
  have ne_g_u : g ≠ u := Nat.ne_of_lt (Nat.lt_of_lt_of_le c55.lt f62_0)
  have ne_b39_u : b39 ≠ u := Nat.ne_of_lt (Nat.lt_of_lt_of_le c64.lt f62_0)
  have ne_b44_u : b44 ≠ u := Nat.ne_of_lt (Nat.lt_of_lt_of_le A44.lt f62_0)
  have ge_u : n0 ≤ u := Nat.le_trans Z44 f62_0
  have ne_w_D_cc0 : w_D ≠ cc0 := Nat.ne_of_lt (Nat.lt_of_lt_of_le c63.lt f62_1)
  have ne_b1_cc0 : b1 ≠ cc0 := Nat.ne_of_lt (Nat.lt_of_lt_of_le c51.lt f62_1)
  have ne_b4_cc0 : b4 ≠ cc0 := Nat.ne_of_lt (Nat.lt_of_lt_of_le c57.lt f62_1)
  have ne_b16_cc0 : b16 ≠ cc0 := Nat.ne_of_lt (Nat.lt_of_lt_of_le c59.lt f62_1)
  have ne_b27_cc0 : b27 ≠ cc0 := Nat.ne_of_lt (Nat.lt_of_lt_of_le c61.lt f62_1)
  have ne_g_cc0 : g ≠ cc0 := Nat.ne_of_lt (Nat.lt_of_lt_of_le c55.lt f62_1)
  have ne_b39_cc0 : b39 ≠ cc0 := Nat.ne_of_lt (Nat.lt_of_lt_of_le c64.lt f62_1)
  have ne_b44_cc0 : b44 ≠ cc0 := Nat.ne_of_lt (Nat.lt_of_lt_of_le A44.lt f62_1)
  have ge_cc0 : n0 ≤ cc0 := Nat.le_trans Z44 f62_1
  have ne_w_D_cc1 : w_D ≠ cc1 := Nat.ne_of_lt (Nat.lt_of_lt_of_le c63.lt f62_2)
  have ne_b1_cc1 : b1 ≠ cc1 := Nat.ne_of_lt (Nat.lt_of_lt_of_le c51.lt f62_2)
  have ne_b4_cc1 : b4 ≠ cc1 := Nat.ne_of_lt (Nat.lt_of_lt_of_le c57.lt f62_2)
  have ne_b16_cc1 : b16 ≠ cc1 := Nat.ne_of_lt (Nat.lt_of_lt_of_le c59.lt f62_2)
  have ne_b27_cc1 : b27 ≠ cc1 := Nat.ne_of_lt (Nat.lt_of_lt_of_le c61.lt f62_2)
  have ne_g_cc1 : g ≠ cc1 := Nat.ne_of_lt (Nat.lt_of_lt_of_le c55.lt f62_2)
  have ne_b39_cc1 : b39 ≠ cc1 := Nat.ne_of_lt (Nat.lt_of_lt_of_le c64.lt f62_2)
  have ne_b44_cc1 : b44 ≠ cc1 := Nat.ne_of_lt (Nat.lt_of_lt_of_le A44.lt f62_2)
  have ge_cc1 : n0 ≤ cc1 := Nat.le_trans Z44 f62_2
  have ne_w_D_cc2 : w_D ≠ cc2 := Nat.ne_of_lt (Nat.lt_of_lt_of_le c63.lt f62_3)
  have ne_b1_cc2 : b1 ≠ cc2 := Nat.ne_of_lt (Nat.lt_of_lt_of_le c51.lt f62_3)
  have ne_b4_cc2 : b4 ≠ cc2 := Nat.ne_of_lt (Nat.lt_of_lt_of_le c57.lt f62_3)
  have ne_b16_cc2 : b16 ≠ cc2 := Nat.ne_of_lt (Nat.lt_of_lt_of_le c59.lt f62_3)
  have ne_b27_cc2 : b27 ≠ cc2 := Nat.ne_of_lt (Nat.lt_of_lt_of_le c61.lt f62_3)
  have ne_g_cc2 : g ≠ cc2 := Nat.ne_of_lt (Nat.lt_of_lt_of_le c55.lt f62_3)
  have ne_b39_cc2 : b39 ≠ cc2 := Nat.ne_of_lt (Nat.lt_of_lt_of_le c64.lt f62_3)
  have ne_b44_cc2 : b44 ≠ cc2 := Nat.ne_of_lt (Nat.lt_of_lt_of_le A44.lt f62_3)
  have ge_cc2 : n0 ≤ cc2 := Nat.le_trans Z44 f62_3
  have Z62 : n0 ≤ T62.heap.size := Nat.le_trans Z44 K62.1
  refine Ds (B := T62.setTop (mkF m 65 #[lI x0, lI x1, lI x2, lI x3, lI x4, lI x5, lR b1, lU, lU, lU, lU, lU, lU, lU, lU, lU, lU] [(.ref b44), (.ref b39), (.ref b39)])) (fun _ k => st62.trans k) ?_
  have c65 := ((Fld.ext E44 F39_parents).keep K62 (ninS ne_b39_b44 nin0))
  have c66 := ((Fld.ext E44 F39_inputs).keep K62 (ninS ne_b39_b44 nin0))
  have c67 := ((Fld.ext E44 F39_depths).keep K62 (ninS ne_b39_b44 nin0))
  have c68 := ((Fld.ext E44 F39_firstChildren).keep K62 (ninS ne_b39_b44 nin0))
  have c69 := ((Fld.ext E44 F39_nextSiblings).keep K62 (ninS ne_b39_b44 nin0))
  have c70 := ((Fld.ext E44 F39_size).keep K62 (ninS ne_b39_b44 nin0))
  have c71 := (c64.keep K62)
  obtain ⟨_, _, ⟨T72, L72, k72, n72⟩, -, X72, ⟨Lc72, hQ72, l72, y72, z72⟩, st72⟩ := X62.specialBack hx (y := (⟨"com/example/percurso/percurso/suite/PrefixTree", "<init>", "(Lcom/example/percurso/percurso/suite/Suite;)V"⟩ : MethodName)) rfl hown (mvT hZ (hw _ mm110)) (mvT hZ (hw _ mm111)) (mvT hZ (hw _ mm112)) (by decide) (backOf (W := 1) (rmPT l Z a0 hw [] b39 b44 u ku cc0 cc1 cc2 k4 k16 k27 x0 x1 x2 x3 T62.heap n0 Z62 c65 c66 c67 c68 c69 c70 c71 ge_b39 f62_4 f62_5 f62_6 f62_7 f62_8 f62_9 ne_b39_b44 ne_b39_u ne_b39_cc0 ne_b39_cc1 ne_b39_cc2) hZ (hw _ mm112) (hw _ mm60) (by decide) (by decide)) (g := (mkF m 65 #[lI x0, lI x1, lI x2, lI x3, lI x4, lI x5, lR b1, lU, lU, lU, lU, lU, lU, lU, lU, lU, lU] [(.ref b44), (.ref b39), (.ref b39)])) rfl (by rw [hml]; rfl) (Steps.refl _) (a := b39) (argsL := [(.ref b44)]) (rest := [(.ref b39)]) (lenOf pd_13 rfl) rfl (by show 2 * 0 + _ ≤ _; exact Nat.le_of_eq rfl) (hb hby at_65) (fun _ _ => ⟨rfl, rfl, (by decide : 11 + 7 ≤ _), (by decide : 31 + 31 ≤ _)⟩)
  dsimp only [Pt.U, Pt.locs, Pt.cells, Pt.slots] at X72 l72 y72 z72 st72 hQ72
  rw [l72, y72, z72] at X72
  obtain ⟨ui, kui, vi, uf, kuf, vf, un, kun, vn, f0, ndt, l0, hv72, N72q, K72, f72_0, f72_1, f72_2, f72_3, f72_4, f72_5, f72_6, hT⟩ := hQ72
  rw [hv72] at st72
  have N72 := Fr.app N62 N72q
  have Z72 : n0 ≤ T72.heap.size := Nat.le_trans Z62 K72.1
  refine Ds (B := T72.setTop (mkF m 68 #[lI x0, lI x1, lI x2, lI x3, lI x4, lI x5, lR b1, lU, lU, lU, lU, lU, lU, lU, lU, lU, lU] [(.ref b39)])) (fun _ k => st72.trans k) ?_
  refine Ds (B := T72.setTop (mkF m 70 #[lI x0, lI x1, lI x2, lI x3, lI x4, lI x5, lR b1, lR b39, lU, lU, lU, lU, lU, lU, lU, lU, lU] [])) (fun _ k => XS.astore X72.here hx rfl (hb hby at_68) rfl rfl (l' := #[lI x0, lI x1, lI x2, lI x3, lI x4, lI x5, lR b1, lR b39, lU, lU, lU, lU, lU, lU, lU, lU, lU]) rfl k) ?_
  refine Ds (B := T72.setTop (mkF m 76 #[lI x0, lI x1, lI x2, lI x3, lI x4, lI x5, lR b1, lR b39, lI 1, lI 2, lU, lU, lU, lU, lU, lU, lU] [])) (fun _ k => XS.iconst X72.here hx rfl (hb hby at_70) (XS.istore X72.here hx rfl (hb hby at_71) rfl (l' := #[lI x0, lI x1, lI x2, lI x3, lI x4, lI x5, lR b1, lR b39, lI 1, lU, lU, lU, lU, lU, lU, lU, lU]) rfl (XS.iconst X72.here hx rfl (hb hby at_73) (XS.istore X72.here hx rfl (hb hby at_74) rfl (l' := #[lI x0, lI x1, lI x2, lI x3, lI x4, lI x5, lR b1, lR b39, lI 1, lI 2, lU, lU, lU, lU, lU, lU, lU]) rfl k)))) ?_
  have j133 : ∀ (cnt : Int32) (nb : Int32) (nc : Int32) (nd : Int32) (hJ : own_J x0 x1 x2 cnt nb nc nd), Done p e below (Prm0 s Z x0 x1 x2 x3 x4 x5 w_D kw_D h0 n0) (T72.setTop (mkF m 133 #[lI x0, lI x1, lI x2, lI x3, lI x4, lI x5, lR b1, lR b39, lI 1, lI cnt, lI nb, lI nc, lI nd, lU, lU, lU, lU] [])) := by
    intro cnt nb nc nd hJ
    refine Ds (B := T72.setTop (mkF m 138 #[lI x0, lI x1, lI x2, lI x3, lI x4, lI x5, lR b1, lR b39, lI 1, lI cnt, lI nb, lI nc, lI nd, lU, lU, lU, lU] [(.int (x5 &&& (7 : Int32)))])) (fun _ k => XS.iload X72.here hx rfl (hb hby at_133) rfl (XS.bipush X72.here hx rfl (hb hby at_135) (XS.iand X72.here hx rfl (hb hby at_137) rfl k))) ?_
    refine Ds (B := T72.setTop (mkF m 140 #[lI x0, lI x1, lI x2, lI x3, lI x4, lI x5, lR b1, lR b39, lI 1, lI cnt, lI nb, lI nc, lI nd, lI (x5 &&& (7 : Int32)), lU, lU, lU] [])) (fun _ k => XS.istore X72.here hx rfl (hb hby at_138) rfl (l' := #[lI x0, lI x1, lI x2, lI x3, lI x4, lI x5, lR b1, lR b39, lI 1, lI cnt, lI nb, lI nc, lI nd, lI (x5 &&& (7 : Int32)), lU, lU, lU]) rfl k) ?_
    have j191 : ∀ (inp : Int32), Done p e below (Prm0 s Z x0 x1 x2 x3 x4 x5 w_D kw_D h0 n0) (T72.setTop (mkF m 191 #[lI x0, lI x1, lI x2, lI x3, lI x4, lI x5, lR b1, lR b39, lI 1, lI cnt, lI nb, lI nc, lI nd, lI (x5 &&& (7 : Int32)), lI inp, lU, lU] [])) := by
      intro inp 
      refine Ds (B := T72.setTop (mkF m 195 #[lI x0, lI x1, lI x2, lI x3, lI x4, lI x5, lR b1, lR b39, lI 1, lI cnt, lI nb, lI nc, lI nd, lI (x5 &&& (7 : Int32)), lI inp, lU, lU] [(.int ((x5.toUInt32 >>> ((3 : Int32) &&& 31).toUInt32).toInt32))])) (fun _ k => XS.iload X72.here hx rfl (hb hby at_191) rfl (XS.iconst X72.here hx rfl (hb hby at_193) (XS.iushr X72.here hx rfl (hb hby at_194) rfl k))) ?_
      refine Ds (B := T72.setTop (mkF m 197 #[lI x0, lI x1, lI x2, lI x3, lI x4, lI x5, lR b1, lR b39, lI 1, lI cnt, lI nb, lI nc, lI nd, lI (x5 &&& (7 : Int32)), lI inp, lU, lU] [(.int cnt), (.int ((x5.toUInt32 >>> ((3 : Int32) &&& 31).toUInt32).toInt32))])) (fun _ k => XS.iload X72.here hx rfl (hb hby at_195) rfl k) ?_
      refine Ds (B := T72.setTop (mkF m 198 #[lI x0, lI x1, lI x2, lI x3, lI x4, lI x5, lR b1, lR b39, lI 1, lI cnt, lI nb, lI nc, lI nd, lI (x5 &&& (7 : Int32)), lI inp, lU, lU] [(.int (((x5.toUInt32 >>> ((3 : Int32) &&& 31).toUInt32).toInt32) % cnt))])) (fun _ k => iremM X72 hx rfl (hb hby at_197) rfl (own_cz hJ) k) ?_
      refine Ds (B := T72.setTop (mkF m 200 #[lI x0, lI x1, lI x2, lI x3, lI x4, lI x5, lR b1, lR b39, lI 1, lI cnt, lI nb, lI nc, lI nd, lI (x5 &&& (7 : Int32)), lI inp, lI (((x5.toUInt32 >>> ((3 : Int32) &&& 31).toUInt32).toInt32) % cnt), lU] [])) (fun _ k => XS.istore X72.here hx rfl (hb hby at_198) rfl (l' := #[lI x0, lI x1, lI x2, lI x3, lI x4, lI x5, lR b1, lR b39, lI 1, lI cnt, lI nb, lI nc, lI nd, lI (x5 &&& (7 : Int32)), lI inp, lI (((x5.toUInt32 >>> ((3 : Int32) &&& 31).toUInt32).toInt32) % cnt), lU]) rfl k) ?_
      have j277 : ∀ (ex : Int32) (hex : ex = own_ex x0 x1 x2 x3 nb nc nd (((x5.toUInt32 >>> ((3 : Int32) &&& 31).toUInt32).toInt32) % cnt) inp), Done p e below (Prm0 s Z x0 x1 x2 x3 x4 x5 w_D kw_D h0 n0) (T72.setTop (mkF m 277 #[lI x0, lI x1, lI x2, lI x3, lI x4, lI x5, lR b1, lR b39, lI 1, lI cnt, lI nb, lI nc, lI nd, lI (x5 &&& (7 : Int32)), lI inp, lI (((x5.toUInt32 >>> ((3 : Int32) &&& 31).toUInt32).toInt32) % cnt), lI ex] [])) := by
        intro ex hex
        refine Ds (B := T72.setTop (mkF m 283 #[lI x0, lI x1, lI x2, lI x3, lI x4, lI x5, lR b1, lR b39, lI 1, lI cnt, lI nb, lI nc, lI nd, lI (x5 &&& (7 : Int32)), lI inp, lI (((x5.toUInt32 >>> ((3 : Int32) &&& 31).toUInt32).toInt32) % cnt), lI ex] [(.int inp), (.int (((x5.toUInt32 >>> ((3 : Int32) &&& 31).toUInt32).toInt32) % cnt)), (.ref b39)])) (fun _ k => XS.aload X72.here hx rfl (hb hby at_277) rfl rfl (XS.iload X72.here hx rfl (hb hby at_279) rfl (XS.iload X72.here hx rfl (hb hby at_281) rfl k))) ?_
        obtain ⟨hnb, hnl⟩ := own_node hJ ((x5.toUInt32 >>> ((3 : Int32) &&& 31).toUInt32).toInt32) (own_ush x5)
        obtain ⟨tch, tle, tfi, tf0, tnd, tf1, ⟨-, tb1, ti1, tg1, tn1, te1⟩, tf2, tf3⟩ := hT
        rw [show tg1 = (-1 : Int32) from te1] at tn1
        by_cases hz0 : (((x5.toUInt32 >>> ((3 : Int32) &&& 31).toUInt32).toInt32) % cnt) = 0
        · rcases l0 with _ | ⟨⟨chn0, chv0⟩, _ | ⟨⟨chn1, chv1⟩, _ | ⟨⟨chn2, chv2⟩, _ | ⟨_, _⟩⟩⟩⟩
          · have tqe := tch
            rw [show f0 = (-1 : Int32) from tqe] at tf0
            have hf0 : vf.getD ((((x5.toUInt32 >>> ((3 : Int32) &&& 31).toUInt32).toInt32) % cnt)).toNatClampNeg (.int 0) = .int (-1) := by rw [hz0]; exact tf0
            have hres : own_find [] inp = ex := (tfi _).trans (own_res0 hJ hex hz0)
            obtain ⟨cq73, kq73, q73a, q73b, q73c⟩ := isOf hZ rfl f72_0
            obtain ⟨_, _, ⟨T73, L73, k73, n73⟩, -, X73, ⟨Lc73, hQ73, l73, y73, z73⟩, st73⟩ := X72.virtualBack hx (y := (⟨"com/example/percurso/percurso/suite/PrefixTree", "child", "(II)I"⟩ : MethodName)) (z := (⟨"com/example/percurso/percurso/suite/PrefixTree", "child", "(II)I"⟩ : MethodName)) hown (mvT hZ (hw _ mm156)) (mvT hZ (hw _ mm146)) (notFace_of_selects (args := #[]) (mvT hZ (hw _ mm148))) (mvT hZ (hw _ mm148)) (mvT hZ (hw _ mm147)) (by decide) (backOf (W := 0) (rmCH_0 l Z a0 hw [] b39 (((x5.toUInt32 >>> ((3 : Int32) &&& 31).toUInt32).toInt32) % cnt) inp ui kui vi uf kuf vf un kun vn  T72.heap n0 Z72 f72_1 f72_2 f72_3 f72_4 f72_5 f72_6 hnb hf0) hZ (hw _ mm149) (hw _ mm60) (by decide) (by decide)) q73a q73c (g := (mkF m 283 #[lI x0, lI x1, lI x2, lI x3, lI x4, lI x5, lR b1, lR b39, lI 1, lI cnt, lI nb, lI nc, lI nd, lI (x5 &&& (7 : Int32)), lI inp, lI (((x5.toUInt32 >>> ((3 : Int32) &&& 31).toUInt32).toInt32) % cnt), lI ex] [(.int inp), (.int (((x5.toUInt32 >>> ((3 : Int32) &&& 31).toUInt32).toInt32) % cnt)), (.ref b39)])) rfl (by rw [hml]; rfl) (Steps.refl _) (argsL := [(.int (((x5.toUInt32 >>> ((3 : Int32) &&& 31).toUInt32).toInt32) % cnt)), (.int inp)]) (rest := []) (lenOf pd_1 rfl) rfl (by show 2 * 0 + _ ≤ _; exact Nat.le_of_eq rfl) (hb hby at_283) (fun _ _ => ⟨rfl, rfl, (by decide : 18 + 0 ≤ _), (by decide : 62 + 0 ≤ _)⟩)
            dsimp only [Pt.U, Pt.locs, Pt.cells, Pt.slots] at X73 l73 y73 z73 st73 hQ73
            rw [l73, y73, z73] at X73
            obtain ⟨hv73, N73q, e73⟩ := hQ73
            rw [hv73] at st73
            have N73 := Fr.app N72 N73q
            refine Ds (B := T73.setTop (mkF m 286 #[lI x0, lI x1, lI x2, lI x3, lI x4, lI x5, lR b1, lR b39, lI 1, lI cnt, lI nb, lI nc, lI nd, lI (x5 &&& (7 : Int32)), lI inp, lI (((x5.toUInt32 >>> ((3 : Int32) &&& 31).toUInt32).toInt32) % cnt), lI ex] [(.int (own_find [] inp))])) (fun _ k => st73.trans k) ?_
            refine Ds (B := T73.setTop (mkF m 296 #[lI x0, lI x1, lI x2, lI x3, lI x4, lI x5, lR b1, lR b39, lI 1, lI cnt, lI nb, lI nc, lI nd, lI (x5 &&& (7 : Int32)), lI inp, lI (((x5.toUInt32 >>> ((3 : Int32) &&& 31).toUInt32).toInt32) % cnt), lI ex] [(.int 1)])) (fun _ k => XS.iload X73.here hx rfl (hb hby at_286) rfl (XS.icmpNo X73.here hx rfl (hb hby at_288) rfl (teq hres).2 (XS.iconst X73.here hx rfl (hb hby at_291) (XS.goto X73.here hx rfl (pc0 := 292) (pc' := 296) rfl (hb hby at_292) (by decide) (by decide) k)))) ?_
            obtain ⟨fs, hr, hrun, hended, hW, hsame⟩ := X73.leave (v := some (.int 1)) (hlocks := hlk) (fun h => by rw [Bd.returns] at h; cases h)
            refine Done.fin (retN X73 hx (t := .boolean) Bd.returns (by simp) (hb hby at_296) hr) hrun hended ⟨_, _, rfl, ?_, ⟨_, rfl⟩, hW, hsame.mono (by decide) (by decide)⟩
            show Qrm0 Z x0 x1 x2 x3 x4 x5 w_D kw_D h0 n0 _ T73.heap _
            rw [e73]
            exact ⟨rfl, N73⟩
          · obtain ⟨tq0, tb_0, ti_0, tg_0, tn_0, tqe⟩ := tch
            rw [show f0 = chn0 from tq0] at tf0
            rw [show tg_0 = (-1 : Int32) from tqe] at tn_0
            have hf0 : vf.getD ((((x5.toUInt32 >>> ((3 : Int32) &&& 31).toUInt32).toInt32) % cnt)).toNatClampNeg (.int 0) = .int chn0 := by rw [hz0]; exact tf0
            have hres : own_find [(chn0, chv0)] inp = ex := (tfi _).trans (own_res0 hJ hex hz0)
            obtain ⟨cq75, kq75, q75a, q75b, q75c⟩ := isOf hZ rfl f72_0
            obtain ⟨_, _, ⟨T75, L75, k75, n75⟩, -, X75, ⟨Lc75, hQ75, l75, y75, z75⟩, st75⟩ := X72.virtualBack hx (y := (⟨"com/example/percurso/percurso/suite/PrefixTree", "child", "(II)I"⟩ : MethodName)) (z := (⟨"com/example/percurso/percurso/suite/PrefixTree", "child", "(II)I"⟩ : MethodName)) hown (mvT hZ (hw _ mm156)) (mvT hZ (hw _ mm146)) (notFace_of_selects (args := #[]) (mvT hZ (hw _ mm148))) (mvT hZ (hw _ mm148)) (mvT hZ (hw _ mm147)) (by decide) (backOf (W := 0) (rmCH_1 l Z a0 hw [] b39 (((x5.toUInt32 >>> ((3 : Int32) &&& 31).toUInt32).toInt32) % cnt) inp ui kui vi uf kuf vf un kun vn chn0 chv0 T72.heap n0 Z72 f72_1 f72_2 f72_3 f72_4 f72_5 f72_6 hnb hf0 tb_0 ti_0 tn_0) hZ (hw _ mm149) (hw _ mm60) (by decide) (by decide)) q75a q75c (g := (mkF m 283 #[lI x0, lI x1, lI x2, lI x3, lI x4, lI x5, lR b1, lR b39, lI 1, lI cnt, lI nb, lI nc, lI nd, lI (x5 &&& (7 : Int32)), lI inp, lI (((x5.toUInt32 >>> ((3 : Int32) &&& 31).toUInt32).toInt32) % cnt), lI ex] [(.int inp), (.int (((x5.toUInt32 >>> ((3 : Int32) &&& 31).toUInt32).toInt32) % cnt)), (.ref b39)])) rfl (by rw [hml]; rfl) (Steps.refl _) (argsL := [(.int (((x5.toUInt32 >>> ((3 : Int32) &&& 31).toUInt32).toInt32) % cnt)), (.int inp)]) (rest := []) (lenOf pd_1 rfl) rfl (by show 2 * 0 + _ ≤ _; exact Nat.le_of_eq rfl) (hb hby at_283) (fun _ _ => ⟨rfl, rfl, (by decide : 18 + 0 ≤ _), (by decide : 62 + 0 ≤ _)⟩)
            dsimp only [Pt.U, Pt.locs, Pt.cells, Pt.slots] at X75 l75 y75 z75 st75 hQ75
            rw [l75, y75, z75] at X75
            obtain ⟨hv75, N75q, e75⟩ := hQ75
            rw [hv75] at st75
            have N75 := Fr.app N72 N75q
            refine Ds (B := T75.setTop (mkF m 286 #[lI x0, lI x1, lI x2, lI x3, lI x4, lI x5, lR b1, lR b39, lI 1, lI cnt, lI nb, lI nc, lI nd, lI (x5 &&& (7 : Int32)), lI inp, lI (((x5.toUInt32 >>> ((3 : Int32) &&& 31).toUInt32).toInt32) % cnt), lI ex] [(.int (own_find [(chn0, chv0)] inp))])) (fun _ k => st75.trans k) ?_
            refine Ds (B := T75.setTop (mkF m 296 #[lI x0, lI x1, lI x2, lI x3, lI x4, lI x5, lR b1, lR b39, lI 1, lI cnt, lI nb, lI nc, lI nd, lI (x5 &&& (7 : Int32)), lI inp, lI (((x5.toUInt32 >>> ((3 : Int32) &&& 31).toUInt32).toInt32) % cnt), lI ex] [(.int 1)])) (fun _ k => XS.iload X75.here hx rfl (hb hby at_286) rfl (XS.icmpNo X75.here hx rfl (hb hby at_288) rfl (teq hres).2 (XS.iconst X75.here hx rfl (hb hby at_291) (XS.goto X75.here hx rfl (pc0 := 292) (pc' := 296) rfl (hb hby at_292) (by decide) (by decide) k)))) ?_
            obtain ⟨fs, hr, hrun, hended, hW, hsame⟩ := X75.leave (v := some (.int 1)) (hlocks := hlk) (fun h => by rw [Bd.returns] at h; cases h)
            refine Done.fin (retN X75 hx (t := .boolean) Bd.returns (by simp) (hb hby at_296) hr) hrun hended ⟨_, _, rfl, ?_, ⟨_, rfl⟩, hW, hsame.mono (by decide) (by decide)⟩
            show Qrm0 Z x0 x1 x2 x3 x4 x5 w_D kw_D h0 n0 _ T75.heap _
            rw [e75]
            exact ⟨rfl, N75⟩
          · obtain ⟨tq0, tb_0, ti_0, tg_0, tn_0, ⟨tq1, tb_1, ti_1, tg_1, tn_1, tqe⟩⟩ := tch
            rw [show f0 = chn0 from tq0] at tf0
            rw [show tg_0 = chn1 from tq1] at tn_0
            rw [show tg_1 = (-1 : Int32) from tqe] at tn_1
            have hf0 : vf.getD ((((x5.toUInt32 >>> ((3 : Int32) &&& 31).toUInt32).toInt32) % cnt)).toNatClampNeg (.int 0) = .int chn0 := by rw [hz0]; exact tf0
            have hres : own_find [(chn0, chv0), (chn1, chv1)] inp = ex := (tfi _).trans (own_res0 hJ hex hz0)
            obtain ⟨cq77, kq77, q77a, q77b, q77c⟩ := isOf hZ rfl f72_0
            obtain ⟨_, _, ⟨T77, L77, k77, n77⟩, -, X77, ⟨Lc77, hQ77, l77, y77, z77⟩, st77⟩ := X72.virtualBack hx (y := (⟨"com/example/percurso/percurso/suite/PrefixTree", "child", "(II)I"⟩ : MethodName)) (z := (⟨"com/example/percurso/percurso/suite/PrefixTree", "child", "(II)I"⟩ : MethodName)) hown (mvT hZ (hw _ mm156)) (mvT hZ (hw _ mm146)) (notFace_of_selects (args := #[]) (mvT hZ (hw _ mm148))) (mvT hZ (hw _ mm148)) (mvT hZ (hw _ mm147)) (by decide) (backOf (W := 0) (rmCH_2 l Z a0 hw [] b39 (((x5.toUInt32 >>> ((3 : Int32) &&& 31).toUInt32).toInt32) % cnt) inp ui kui vi uf kuf vf un kun vn chn0 chn1 chv0 chv1 T72.heap n0 Z72 f72_1 f72_2 f72_3 f72_4 f72_5 f72_6 hnb hf0 tb_0 ti_0 tn_0 tb_1 ti_1 tn_1) hZ (hw _ mm149) (hw _ mm60) (by decide) (by decide)) q77a q77c (g := (mkF m 283 #[lI x0, lI x1, lI x2, lI x3, lI x4, lI x5, lR b1, lR b39, lI 1, lI cnt, lI nb, lI nc, lI nd, lI (x5 &&& (7 : Int32)), lI inp, lI (((x5.toUInt32 >>> ((3 : Int32) &&& 31).toUInt32).toInt32) % cnt), lI ex] [(.int inp), (.int (((x5.toUInt32 >>> ((3 : Int32) &&& 31).toUInt32).toInt32) % cnt)), (.ref b39)])) rfl (by rw [hml]; rfl) (Steps.refl _) (argsL := [(.int (((x5.toUInt32 >>> ((3 : Int32) &&& 31).toUInt32).toInt32) % cnt)), (.int inp)]) (rest := []) (lenOf pd_1 rfl) rfl (by show 2 * 0 + _ ≤ _; exact Nat.le_of_eq rfl) (hb hby at_283) (fun _ _ => ⟨rfl, rfl, (by decide : 18 + 0 ≤ _), (by decide : 62 + 0 ≤ _)⟩)
            dsimp only [Pt.U, Pt.locs, Pt.cells, Pt.slots] at X77 l77 y77 z77 st77 hQ77
            rw [l77, y77, z77] at X77
            obtain ⟨hv77, N77q, e77⟩ := hQ77
            rw [hv77] at st77
            have N77 := Fr.app N72 N77q
            refine Ds (B := T77.setTop (mkF m 286 #[lI x0, lI x1, lI x2, lI x3, lI x4, lI x5, lR b1, lR b39, lI 1, lI cnt, lI nb, lI nc, lI nd, lI (x5 &&& (7 : Int32)), lI inp, lI (((x5.toUInt32 >>> ((3 : Int32) &&& 31).toUInt32).toInt32) % cnt), lI ex] [(.int (own_find [(chn0, chv0), (chn1, chv1)] inp))])) (fun _ k => st77.trans k) ?_
            refine Ds (B := T77.setTop (mkF m 296 #[lI x0, lI x1, lI x2, lI x3, lI x4, lI x5, lR b1, lR b39, lI 1, lI cnt, lI nb, lI nc, lI nd, lI (x5 &&& (7 : Int32)), lI inp, lI (((x5.toUInt32 >>> ((3 : Int32) &&& 31).toUInt32).toInt32) % cnt), lI ex] [(.int 1)])) (fun _ k => XS.iload X77.here hx rfl (hb hby at_286) rfl (XS.icmpNo X77.here hx rfl (hb hby at_288) rfl (teq hres).2 (XS.iconst X77.here hx rfl (hb hby at_291) (XS.goto X77.here hx rfl (pc0 := 292) (pc' := 296) rfl (hb hby at_292) (by decide) (by decide) k)))) ?_
            obtain ⟨fs, hr, hrun, hended, hW, hsame⟩ := X77.leave (v := some (.int 1)) (hlocks := hlk) (fun h => by rw [Bd.returns] at h; cases h)
            refine Done.fin (retN X77 hx (t := .boolean) Bd.returns (by simp) (hb hby at_296) hr) hrun hended ⟨_, _, rfl, ?_, ⟨_, rfl⟩, hW, hsame.mono (by decide) (by decide)⟩
            show Qrm0 Z x0 x1 x2 x3 x4 x5 w_D kw_D h0 n0 _ T77.heap _
            rw [e77]
            exact ⟨rfl, N77⟩
          · obtain ⟨tq0, tb_0, ti_0, tg_0, tn_0, ⟨tq1, tb_1, ti_1, tg_1, tn_1, ⟨tq2, tb_2, ti_2, tg_2, tn_2, tqe⟩⟩⟩ := tch
            rw [show f0 = chn0 from tq0] at tf0
            rw [show tg_0 = chn1 from tq1] at tn_0
            rw [show tg_1 = chn2 from tq2] at tn_1
            rw [show tg_2 = (-1 : Int32) from tqe] at tn_2
            have hf0 : vf.getD ((((x5.toUInt32 >>> ((3 : Int32) &&& 31).toUInt32).toInt32) % cnt)).toNatClampNeg (.int 0) = .int chn0 := by rw [hz0]; exact tf0
            have hres : own_find [(chn0, chv0), (chn1, chv1), (chn2, chv2)] inp = ex := (tfi _).trans (own_res0 hJ hex hz0)
            obtain ⟨cq79, kq79, q79a, q79b, q79c⟩ := isOf hZ rfl f72_0
            obtain ⟨_, _, ⟨T79, L79, k79, n79⟩, -, X79, ⟨Lc79, hQ79, l79, y79, z79⟩, st79⟩ := X72.virtualBack hx (y := (⟨"com/example/percurso/percurso/suite/PrefixTree", "child", "(II)I"⟩ : MethodName)) (z := (⟨"com/example/percurso/percurso/suite/PrefixTree", "child", "(II)I"⟩ : MethodName)) hown (mvT hZ (hw _ mm156)) (mvT hZ (hw _ mm146)) (notFace_of_selects (args := #[]) (mvT hZ (hw _ mm148))) (mvT hZ (hw _ mm148)) (mvT hZ (hw _ mm147)) (by decide) (backOf (W := 0) (rmCH_3 l Z a0 hw [] b39 (((x5.toUInt32 >>> ((3 : Int32) &&& 31).toUInt32).toInt32) % cnt) inp ui kui vi uf kuf vf un kun vn chn0 chn1 chn2 chv0 chv1 chv2 T72.heap n0 Z72 f72_1 f72_2 f72_3 f72_4 f72_5 f72_6 hnb hf0 tb_0 ti_0 tn_0 tb_1 ti_1 tn_1 tb_2 ti_2 tn_2) hZ (hw _ mm149) (hw _ mm60) (by decide) (by decide)) q79a q79c (g := (mkF m 283 #[lI x0, lI x1, lI x2, lI x3, lI x4, lI x5, lR b1, lR b39, lI 1, lI cnt, lI nb, lI nc, lI nd, lI (x5 &&& (7 : Int32)), lI inp, lI (((x5.toUInt32 >>> ((3 : Int32) &&& 31).toUInt32).toInt32) % cnt), lI ex] [(.int inp), (.int (((x5.toUInt32 >>> ((3 : Int32) &&& 31).toUInt32).toInt32) % cnt)), (.ref b39)])) rfl (by rw [hml]; rfl) (Steps.refl _) (argsL := [(.int (((x5.toUInt32 >>> ((3 : Int32) &&& 31).toUInt32).toInt32) % cnt)), (.int inp)]) (rest := []) (lenOf pd_1 rfl) rfl (by show 2 * 0 + _ ≤ _; exact Nat.le_of_eq rfl) (hb hby at_283) (fun _ _ => ⟨rfl, rfl, (by decide : 18 + 0 ≤ _), (by decide : 62 + 0 ≤ _)⟩)
            dsimp only [Pt.U, Pt.locs, Pt.cells, Pt.slots] at X79 l79 y79 z79 st79 hQ79
            rw [l79, y79, z79] at X79
            obtain ⟨hv79, N79q, e79⟩ := hQ79
            rw [hv79] at st79
            have N79 := Fr.app N72 N79q
            refine Ds (B := T79.setTop (mkF m 286 #[lI x0, lI x1, lI x2, lI x3, lI x4, lI x5, lR b1, lR b39, lI 1, lI cnt, lI nb, lI nc, lI nd, lI (x5 &&& (7 : Int32)), lI inp, lI (((x5.toUInt32 >>> ((3 : Int32) &&& 31).toUInt32).toInt32) % cnt), lI ex] [(.int (own_find [(chn0, chv0), (chn1, chv1), (chn2, chv2)] inp))])) (fun _ k => st79.trans k) ?_
            refine Ds (B := T79.setTop (mkF m 296 #[lI x0, lI x1, lI x2, lI x3, lI x4, lI x5, lR b1, lR b39, lI 1, lI cnt, lI nb, lI nc, lI nd, lI (x5 &&& (7 : Int32)), lI inp, lI (((x5.toUInt32 >>> ((3 : Int32) &&& 31).toUInt32).toInt32) % cnt), lI ex] [(.int 1)])) (fun _ k => XS.iload X79.here hx rfl (hb hby at_286) rfl (XS.icmpNo X79.here hx rfl (hb hby at_288) rfl (teq hres).2 (XS.iconst X79.here hx rfl (hb hby at_291) (XS.goto X79.here hx rfl (pc0 := 292) (pc' := 296) rfl (hb hby at_292) (by decide) (by decide) k)))) ?_
            obtain ⟨fs, hr, hrun, hended, hW, hsame⟩ := X79.leave (v := some (.int 1)) (hlocks := hlk) (fun h => by rw [Bd.returns] at h; cases h)
            refine Done.fin (retN X79 hx (t := .boolean) Bd.returns (by simp) (hb hby at_296) hr) hrun hended ⟨_, _, rfl, ?_, ⟨_, rfl⟩, hW, hsame.mono (by decide) (by decide)⟩
            show Qrm0 Z x0 x1 x2 x3 x4 x5 w_D kw_D h0 n0 _ T79.heap _
            rw [e79]
            exact ⟨rfl, N79⟩
          · exact absurd tle (by simp)
        · by_cases hz1 : (((x5.toUInt32 >>> ((3 : Int32) &&& 31).toUInt32).toInt32) % cnt) = 1
          · have hf1 : vf.getD ((((x5.toUInt32 >>> ((3 : Int32) &&& 31).toUInt32).toInt32) % cnt)).toNatClampNeg (.int 0) = .int ndt := by rw [hz1]; exact tf1
            have hres : own_find [(ndt, x3)] inp = ex := own_res1 hJ hex hz0 hz1 tnd
            obtain ⟨cq81, kq81, q81a, q81b, q81c⟩ := isOf hZ rfl f72_0
            obtain ⟨_, _, ⟨T81, L81, k81, n81⟩, -, X81, ⟨Lc81, hQ81, l81, y81, z81⟩, st81⟩ := X72.virtualBack hx (y := (⟨"com/example/percurso/percurso/suite/PrefixTree", "child", "(II)I"⟩ : MethodName)) (z := (⟨"com/example/percurso/percurso/suite/PrefixTree", "child", "(II)I"⟩ : MethodName)) hown (mvT hZ (hw _ mm156)) (mvT hZ (hw _ mm146)) (notFace_of_selects (args := #[]) (mvT hZ (hw _ mm148))) (mvT hZ (hw _ mm148)) (mvT hZ (hw _ mm147)) (by decide) (backOf (W := 0) (rmCH_1 l Z a0 hw [] b39 (((x5.toUInt32 >>> ((3 : Int32) &&& 31).toUInt32).toInt32) % cnt) inp ui kui vi uf kuf vf un kun vn ndt x3 T72.heap n0 Z72 f72_1 f72_2 f72_3 f72_4 f72_5 f72_6 hnb hf1 tb1 ti1 tn1) hZ (hw _ mm149) (hw _ mm60) (by decide) (by decide)) q81a q81c (g := (mkF m 283 #[lI x0, lI x1, lI x2, lI x3, lI x4, lI x5, lR b1, lR b39, lI 1, lI cnt, lI nb, lI nc, lI nd, lI (x5 &&& (7 : Int32)), lI inp, lI (((x5.toUInt32 >>> ((3 : Int32) &&& 31).toUInt32).toInt32) % cnt), lI ex] [(.int inp), (.int (((x5.toUInt32 >>> ((3 : Int32) &&& 31).toUInt32).toInt32) % cnt)), (.ref b39)])) rfl (by rw [hml]; rfl) (Steps.refl _) (argsL := [(.int (((x5.toUInt32 >>> ((3 : Int32) &&& 31).toUInt32).toInt32) % cnt)), (.int inp)]) (rest := []) (lenOf pd_1 rfl) rfl (by show 2 * 0 + _ ≤ _; exact Nat.le_of_eq rfl) (hb hby at_283) (fun _ _ => ⟨rfl, rfl, (by decide : 18 + 0 ≤ _), (by decide : 62 + 0 ≤ _)⟩)
            dsimp only [Pt.U, Pt.locs, Pt.cells, Pt.slots] at X81 l81 y81 z81 st81 hQ81
            rw [l81, y81, z81] at X81
            obtain ⟨hv81, N81q, e81⟩ := hQ81
            rw [hv81] at st81
            have N81 := Fr.app N72 N81q
            refine Ds (B := T81.setTop (mkF m 286 #[lI x0, lI x1, lI x2, lI x3, lI x4, lI x5, lR b1, lR b39, lI 1, lI cnt, lI nb, lI nc, lI nd, lI (x5 &&& (7 : Int32)), lI inp, lI (((x5.toUInt32 >>> ((3 : Int32) &&& 31).toUInt32).toInt32) % cnt), lI ex] [(.int (own_find [(ndt, x3)] inp))])) (fun _ k => st81.trans k) ?_
            refine Ds (B := T81.setTop (mkF m 296 #[lI x0, lI x1, lI x2, lI x3, lI x4, lI x5, lR b1, lR b39, lI 1, lI cnt, lI nb, lI nc, lI nd, lI (x5 &&& (7 : Int32)), lI inp, lI (((x5.toUInt32 >>> ((3 : Int32) &&& 31).toUInt32).toInt32) % cnt), lI ex] [(.int 1)])) (fun _ k => XS.iload X81.here hx rfl (hb hby at_286) rfl (XS.icmpNo X81.here hx rfl (hb hby at_288) rfl (teq hres).2 (XS.iconst X81.here hx rfl (hb hby at_291) (XS.goto X81.here hx rfl (pc0 := 292) (pc' := 296) rfl (hb hby at_292) (by decide) (by decide) k)))) ?_
            obtain ⟨fs, hr, hrun, hended, hW, hsame⟩ := X81.leave (v := some (.int 1)) (hlocks := hlk) (fun h => by rw [Bd.returns] at h; cases h)
            refine Done.fin (retN X81 hx (t := .boolean) Bd.returns (by simp) (hb hby at_296) hr) hrun hended ⟨_, _, rfl, ?_, ⟨_, rfl⟩, hW, hsame.mono (by decide) (by decide)⟩
            show Qrm0 Z x0 x1 x2 x3 x4 x5 w_D kw_D h0 n0 _ T81.heap _
            rw [e81]
            exact ⟨rfl, N81⟩
          · have hres : own_find [] inp = ex := own_res2 hJ hex hz0 hz1
            obtain ⟨cq83, kq83, q83a, q83b, q83c⟩ := isOf hZ rfl f72_0
            obtain ⟨_, _, ⟨T83, L83, k83, n83⟩, -, X83, ⟨Lc83, hQ83, l83, y83, z83⟩, st83⟩ := X72.virtualBack hx (y := (⟨"com/example/percurso/percurso/suite/PrefixTree", "child", "(II)I"⟩ : MethodName)) (z := (⟨"com/example/percurso/percurso/suite/PrefixTree", "child", "(II)I"⟩ : MethodName)) hown (mvT hZ (hw _ mm156)) (mvT hZ (hw _ mm146)) (notFace_of_selects (args := #[]) (mvT hZ (hw _ mm148))) (mvT hZ (hw _ mm148)) (mvT hZ (hw _ mm147)) (by decide) (backOf (W := 0) (rmCH_0 l Z a0 hw [] b39 (((x5.toUInt32 >>> ((3 : Int32) &&& 31).toUInt32).toInt32) % cnt) inp ui kui vi uf kuf vf un kun vn  T72.heap n0 Z72 f72_1 f72_2 f72_3 f72_4 f72_5 f72_6 hnb (own_rest tnd tf2 tf3 hnb hnl hz0 hz1)) hZ (hw _ mm149) (hw _ mm60) (by decide) (by decide)) q83a q83c (g := (mkF m 283 #[lI x0, lI x1, lI x2, lI x3, lI x4, lI x5, lR b1, lR b39, lI 1, lI cnt, lI nb, lI nc, lI nd, lI (x5 &&& (7 : Int32)), lI inp, lI (((x5.toUInt32 >>> ((3 : Int32) &&& 31).toUInt32).toInt32) % cnt), lI ex] [(.int inp), (.int (((x5.toUInt32 >>> ((3 : Int32) &&& 31).toUInt32).toInt32) % cnt)), (.ref b39)])) rfl (by rw [hml]; rfl) (Steps.refl _) (argsL := [(.int (((x5.toUInt32 >>> ((3 : Int32) &&& 31).toUInt32).toInt32) % cnt)), (.int inp)]) (rest := []) (lenOf pd_1 rfl) rfl (by show 2 * 0 + _ ≤ _; exact Nat.le_of_eq rfl) (hb hby at_283) (fun _ _ => ⟨rfl, rfl, (by decide : 18 + 0 ≤ _), (by decide : 62 + 0 ≤ _)⟩)
            dsimp only [Pt.U, Pt.locs, Pt.cells, Pt.slots] at X83 l83 y83 z83 st83 hQ83
            rw [l83, y83, z83] at X83
            obtain ⟨hv83, N83q, e83⟩ := hQ83
            rw [hv83] at st83
            have N83 := Fr.app N72 N83q
            refine Ds (B := T83.setTop (mkF m 286 #[lI x0, lI x1, lI x2, lI x3, lI x4, lI x5, lR b1, lR b39, lI 1, lI cnt, lI nb, lI nc, lI nd, lI (x5 &&& (7 : Int32)), lI inp, lI (((x5.toUInt32 >>> ((3 : Int32) &&& 31).toUInt32).toInt32) % cnt), lI ex] [(.int (own_find [] inp))])) (fun _ k => st83.trans k) ?_
            refine Ds (B := T83.setTop (mkF m 296 #[lI x0, lI x1, lI x2, lI x3, lI x4, lI x5, lR b1, lR b39, lI 1, lI cnt, lI nb, lI nc, lI nd, lI (x5 &&& (7 : Int32)), lI inp, lI (((x5.toUInt32 >>> ((3 : Int32) &&& 31).toUInt32).toInt32) % cnt), lI ex] [(.int 1)])) (fun _ k => XS.iload X83.here hx rfl (hb hby at_286) rfl (XS.icmpNo X83.here hx rfl (hb hby at_288) rfl (teq hres).2 (XS.iconst X83.here hx rfl (hb hby at_291) (XS.goto X83.here hx rfl (pc0 := 292) (pc' := 296) rfl (hb hby at_292) (by decide) (by decide) k)))) ?_
            obtain ⟨fs, hr, hrun, hended, hW, hsame⟩ := X83.leave (v := some (.int 1)) (hlocks := hlk) (fun h => by rw [Bd.returns] at h; cases h)
            refine Done.fin (retN X83 hx (t := .boolean) Bd.returns (by simp) (hb hby at_296) hr) hrun hended ⟨_, _, rfl, ?_, ⟨_, rfl⟩, hW, hsame.mono (by decide) (by decide)⟩
            show Qrm0 Z x0 x1 x2 x3 x4 x5 w_D kw_D h0 n0 _ T83.heap _
            rw [e83]
            exact ⟨rfl, N83⟩
      refine Ds (B := T72.setTop (mkF m 202 #[lI x0, lI x1, lI x2, lI x3, lI x4, lI x5, lR b1, lR b39, lI 1, lI cnt, lI nb, lI nc, lI nd, lI (x5 &&& (7 : Int32)), lI inp, lI (((x5.toUInt32 >>> ((3 : Int32) &&& 31).toUInt32).toInt32) % cnt), lU] [(.int (((x5.toUInt32 >>> ((3 : Int32) &&& 31).toUInt32).toInt32) % cnt))])) (fun _ k => XS.iload X72.here hx rfl (hb hby at_200) rfl k) ?_
      by_cases hc202 : (((x5.toUInt32 >>> ((3 : Int32) &&& 31).toUInt32).toInt32) % cnt) = (0 : Int32)
      · refine Ds (B := T72.setTop (mkF m 205 #[lI x0, lI x1, lI x2, lI x3, lI x4, lI x5, lR b1, lR b39, lI 1, lI cnt, lI nb, lI nc, lI nd, lI (x5 &&& (7 : Int32)), lI inp, lI (((x5.toUInt32 >>> ((3 : Int32) &&& 31).toUInt32).toInt32) % cnt), lU] [])) (fun _ k => XS.ifNo X72.here hx rfl (hb hby at_202) rfl ((if0 _ _).trans (teq hc202).2) k) ?_
        refine Ds (B := T72.setTop (mkF m 208 #[lI x0, lI x1, lI x2, lI x3, lI x4, lI x5, lR b1, lR b39, lI 1, lI cnt, lI nb, lI nc, lI nd, lI (x5 &&& (7 : Int32)), lI inp, lI (((x5.toUInt32 >>> ((3 : Int32) &&& 31).toUInt32).toInt32) % cnt), lU] [(.int x0), (.int inp)])) (fun _ k => XS.iload X72.here hx rfl (hb hby at_205) rfl (XS.iloadN X72.here hx rfl (hb hby at_207) rfl k)) ?_
        by_cases hc208 : inp = x0
        · refine Ds (B := T72.setTop (mkF m 277 #[lI x0, lI x1, lI x2, lI x3, lI x4, lI x5, lR b1, lR b39, lI 1, lI cnt, lI nb, lI nc, lI nd, lI (x5 &&& (7 : Int32)), lI inp, lI (((x5.toUInt32 >>> ((3 : Int32) &&& 31).toUInt32).toInt32) % cnt), lI 1] [])) (fun _ k => XS.icmpNo X72.here hx rfl (hb hby at_208) rfl (teq hc208).2 (XS.iload X72.here hx rfl (hb hby at_211) rfl (XS.istore X72.here hx rfl (hb hby at_213) rfl (l' := #[lI x0, lI x1, lI x2, lI x3, lI x4, lI x5, lR b1, lR b39, lI 1, lI cnt, lI nb, lI nc, lI nd, lI (x5 &&& (7 : Int32)), lI inp, lI (((x5.toUInt32 >>> ((3 : Int32) &&& 31).toUInt32).toInt32) % cnt), lI 1]) rfl (XS.goto X72.here hx rfl (pc0 := 215) (pc' := 277) rfl (hb hby at_215) (by decide) (by decide) k)))) ?_
          exact j277 (1 : Int32) (by rw [own_ex, if_pos hc202, if_pos hc208])
        · refine Ds (B := T72.setTop (mkF m 221 #[lI x0, lI x1, lI x2, lI x3, lI x4, lI x5, lR b1, lR b39, lI 1, lI cnt, lI nb, lI nc, lI nd, lI (x5 &&& (7 : Int32)), lI inp, lI (((x5.toUInt32 >>> ((3 : Int32) &&& 31).toUInt32).toInt32) % cnt), lU] [(.int x1), (.int inp)])) (fun _ k => XS.icmpYes X72.here hx rfl (pc0 := 208) (pc' := 218) rfl (hb hby at_208) rfl (feq hc208).2 (by decide) (by decide) (XS.iload X72.here hx rfl (hb hby at_218) rfl (XS.iloadN X72.here hx rfl (hb hby at_220) rfl k))) ?_
          by_cases hc221 : inp = x1
          · refine Ds (B := T72.setTop (mkF m 277 #[lI x0, lI x1, lI x2, lI x3, lI x4, lI x5, lR b1, lR b39, lI 1, lI cnt, lI nb, lI nc, lI nd, lI (x5 &&& (7 : Int32)), lI inp, lI (((x5.toUInt32 >>> ((3 : Int32) &&& 31).toUInt32).toInt32) % cnt), lI nb] [])) (fun _ k => XS.icmpNo X72.here hx rfl (hb hby at_221) rfl (teq hc221).2 (XS.iload X72.here hx rfl (hb hby at_224) rfl (XS.istore X72.here hx rfl (hb hby at_226) rfl (l' := #[lI x0, lI x1, lI x2, lI x3, lI x4, lI x5, lR b1, lR b39, lI 1, lI cnt, lI nb, lI nc, lI nd, lI (x5 &&& (7 : Int32)), lI inp, lI (((x5.toUInt32 >>> ((3 : Int32) &&& 31).toUInt32).toInt32) % cnt), lI nb]) rfl (XS.goto X72.here hx rfl (pc0 := 228) (pc' := 277) rfl (hb hby at_228) (by decide) (by decide) k)))) ?_
            exact j277 nb (by rw [own_ex, if_pos hc202, if_neg hc208, if_pos hc221])
          · refine Ds (B := T72.setTop (mkF m 234 #[lI x0, lI x1, lI x2, lI x3, lI x4, lI x5, lR b1, lR b39, lI 1, lI cnt, lI nb, lI nc, lI nd, lI (x5 &&& (7 : Int32)), lI inp, lI (((x5.toUInt32 >>> ((3 : Int32) &&& 31).toUInt32).toInt32) % cnt), lU] [(.int x2), (.int inp)])) (fun _ k => XS.icmpYes X72.here hx rfl (pc0 := 221) (pc' := 231) rfl (hb hby at_221) rfl (feq hc221).2 (by decide) (by decide) (XS.iload X72.here hx rfl (hb hby at_231) rfl (XS.iloadN X72.here hx rfl (hb hby at_233) rfl k))) ?_
            by_cases hc234 : inp = x2
            · refine Ds (B := T72.setTop (mkF m 277 #[lI x0, lI x1, lI x2, lI x3, lI x4, lI x5, lR b1, lR b39, lI 1, lI cnt, lI nb, lI nc, lI nd, lI (x5 &&& (7 : Int32)), lI inp, lI (((x5.toUInt32 >>> ((3 : Int32) &&& 31).toUInt32).toInt32) % cnt), lI nc] [])) (fun _ k => XS.icmpNo X72.here hx rfl (hb hby at_234) rfl (teq hc234).2 (XS.iload X72.here hx rfl (hb hby at_237) rfl (XS.istore X72.here hx rfl (hb hby at_239) rfl (l' := #[lI x0, lI x1, lI x2, lI x3, lI x4, lI x5, lR b1, lR b39, lI 1, lI cnt, lI nb, lI nc, lI nd, lI (x5 &&& (7 : Int32)), lI inp, lI (((x5.toUInt32 >>> ((3 : Int32) &&& 31).toUInt32).toInt32) % cnt), lI nc]) rfl (XS.goto X72.here hx rfl (pc0 := 241) (pc' := 277) rfl (hb hby at_241) (by decide) (by decide) k)))) ?_
              exact j277 nc (by rw [own_ex, if_pos hc202, if_neg hc208, if_neg hc221, if_pos hc234])
            · refine Ds (B := T72.setTop (mkF m 277 #[lI x0, lI x1, lI x2, lI x3, lI x4, lI x5, lR b1, lR b39, lI 1, lI cnt, lI nb, lI nc, lI nd, lI (x5 &&& (7 : Int32)), lI inp, lI (((x5.toUInt32 >>> ((3 : Int32) &&& 31).toUInt32).toInt32) % cnt), lI (-1)] [])) (fun _ k => XS.icmpYes X72.here hx rfl (pc0 := 234) (pc' := 244) rfl (hb hby at_234) rfl (feq hc234).2 (by decide) (by decide) (XS.iconst X72.here hx rfl (hb hby at_244) (XS.istore X72.here hx rfl (hb hby at_245) rfl (l' := #[lI x0, lI x1, lI x2, lI x3, lI x4, lI x5, lR b1, lR b39, lI 1, lI cnt, lI nb, lI nc, lI nd, lI (x5 &&& (7 : Int32)), lI inp, lI (((x5.toUInt32 >>> ((3 : Int32) &&& 31).toUInt32).toInt32) % cnt), lI (-1)]) rfl (XS.goto X72.here hx rfl (pc0 := 247) (pc' := 277) rfl (hb hby at_247) (by decide) (by decide) k)))) ?_
              exact j277 (-1 : Int32) (by rw [own_ex, if_pos hc202, if_neg hc208, if_neg hc221, if_neg hc234])
      · refine Ds (B := T72.setTop (mkF m 250 #[lI x0, lI x1, lI x2, lI x3, lI x4, lI x5, lR b1, lR b39, lI 1, lI cnt, lI nb, lI nc, lI nd, lI (x5 &&& (7 : Int32)), lI inp, lI (((x5.toUInt32 >>> ((3 : Int32) &&& 31).toUInt32).toInt32) % cnt), lU] [])) (fun _ k => XS.ifYes X72.here hx rfl (pc0 := 202) (pc' := 250) rfl (hb hby at_202) rfl ((if0 _ _).trans (feq hc202).2) (by decide) (by decide) k) ?_
        refine Ds (B := T72.setTop (mkF m 254 #[lI x0, lI x1, lI x2, lI x3, lI x4, lI x5, lR b1, lR b39, lI 1, lI cnt, lI nb, lI nc, lI nd, lI (x5 &&& (7 : Int32)), lI inp, lI (((x5.toUInt32 >>> ((3 : Int32) &&& 31).toUInt32).toInt32) % cnt), lU] [(.int 1), (.int (((x5.toUInt32 >>> ((3 : Int32) &&& 31).toUInt32).toInt32) % cnt))])) (fun _ k => XS.iload X72.here hx rfl (hb hby at_250) rfl (XS.iload X72.here hx rfl (hb hby at_252) rfl k)) ?_
        by_cases hc254 : (((x5.toUInt32 >>> ((3 : Int32) &&& 31).toUInt32).toInt32) % cnt) = (1 : Int32)
        · refine Ds (B := T72.setTop (mkF m 260 #[lI x0, lI x1, lI x2, lI x3, lI x4, lI x5, lR b1, lR b39, lI 1, lI cnt, lI nb, lI nc, lI nd, lI (x5 &&& (7 : Int32)), lI inp, lI (((x5.toUInt32 >>> ((3 : Int32) &&& 31).toUInt32).toInt32) % cnt), lU] [(.int x3), (.int inp)])) (fun _ k => XS.icmpNo X72.here hx rfl (hb hby at_254) rfl (teq hc254).2 (XS.iload X72.here hx rfl (hb hby at_257) rfl (XS.iloadN X72.here hx rfl (hb hby at_259) rfl k))) ?_
          by_cases hc260 : inp = x3
          · refine Ds (B := T72.setTop (mkF m 277 #[lI x0, lI x1, lI x2, lI x3, lI x4, lI x5, lR b1, lR b39, lI 1, lI cnt, lI nb, lI nc, lI nd, lI (x5 &&& (7 : Int32)), lI inp, lI (((x5.toUInt32 >>> ((3 : Int32) &&& 31).toUInt32).toInt32) % cnt), lI nd] [])) (fun _ k => XS.icmpNo X72.here hx rfl (hb hby at_260) rfl (teq hc260).2 (XS.iload X72.here hx rfl (hb hby at_263) rfl (XS.goto X72.here hx rfl (pc0 := 265) (pc' := 269) rfl (hb hby at_265) (by decide) (by decide) (XS.istore X72.here hx rfl (hb hby at_269) rfl (l' := #[lI x0, lI x1, lI x2, lI x3, lI x4, lI x5, lR b1, lR b39, lI 1, lI cnt, lI nb, lI nc, lI nd, lI (x5 &&& (7 : Int32)), lI inp, lI (((x5.toUInt32 >>> ((3 : Int32) &&& 31).toUInt32).toInt32) % cnt), lI nd]) rfl (XS.goto X72.here hx rfl (pc0 := 271) (pc' := 277) rfl (hb hby at_271) (by decide) (by decide) k))))) ?_
            exact j277 nd (by rw [own_ex, if_neg hc202, if_pos hc254, if_pos hc260])
          · refine Ds (B := T72.setTop (mkF m 277 #[lI x0, lI x1, lI x2, lI x3, lI x4, lI x5, lR b1, lR b39, lI 1, lI cnt, lI nb, lI nc, lI nd, lI (x5 &&& (7 : Int32)), lI inp, lI (((x5.toUInt32 >>> ((3 : Int32) &&& 31).toUInt32).toInt32) % cnt), lI (-1)] [])) (fun _ k => XS.icmpYes X72.here hx rfl (pc0 := 260) (pc' := 268) rfl (hb hby at_260) rfl (feq hc260).2 (by decide) (by decide) (XS.iconst X72.here hx rfl (hb hby at_268) (XS.istore X72.here hx rfl (hb hby at_269) rfl (l' := #[lI x0, lI x1, lI x2, lI x3, lI x4, lI x5, lR b1, lR b39, lI 1, lI cnt, lI nb, lI nc, lI nd, lI (x5 &&& (7 : Int32)), lI inp, lI (((x5.toUInt32 >>> ((3 : Int32) &&& 31).toUInt32).toInt32) % cnt), lI (-1)]) rfl (XS.goto X72.here hx rfl (pc0 := 271) (pc' := 277) rfl (hb hby at_271) (by decide) (by decide) k)))) ?_
            exact j277 (-1 : Int32) (by rw [own_ex, if_neg hc202, if_pos hc254, if_neg hc260])
        · refine Ds (B := T72.setTop (mkF m 277 #[lI x0, lI x1, lI x2, lI x3, lI x4, lI x5, lR b1, lR b39, lI 1, lI cnt, lI nb, lI nc, lI nd, lI (x5 &&& (7 : Int32)), lI inp, lI (((x5.toUInt32 >>> ((3 : Int32) &&& 31).toUInt32).toInt32) % cnt), lI (-1)] [])) (fun _ k => XS.icmpYes X72.here hx rfl (pc0 := 254) (pc' := 274) rfl (hb hby at_254) rfl (feq hc254).2 (by decide) (by decide) (XS.iconst X72.here hx rfl (hb hby at_274) (XS.istore X72.here hx rfl (hb hby at_275) rfl (l' := #[lI x0, lI x1, lI x2, lI x3, lI x4, lI x5, lR b1, lR b39, lI 1, lI cnt, lI nb, lI nc, lI nd, lI (x5 &&& (7 : Int32)), lI inp, lI (((x5.toUInt32 >>> ((3 : Int32) &&& 31).toUInt32).toInt32) % cnt), lI (-1)]) rfl k))) ?_
          exact j277 (-1 : Int32) (by rw [own_ex, if_neg hc202, if_neg hc254])
    refine Ds (B := T72.setTop (mkF m 142 #[lI x0, lI x1, lI x2, lI x3, lI x4, lI x5, lR b1, lR b39, lI 1, lI cnt, lI nb, lI nc, lI nd, lI (x5 &&& (7 : Int32)), lU, lU, lU] [(.int (x5 &&& (7 : Int32)))])) (fun _ k => XS.iload X72.here hx rfl (hb hby at_140) rfl k) ?_
    by_cases hc142 : (x5 &&& (7 : Int32)) = (0 : Int32)
    · refine Ds (B := T72.setTop (mkF m 145 #[lI x0, lI x1, lI x2, lI x3, lI x4, lI x5, lR b1, lR b39, lI 1, lI cnt, lI nb, lI nc, lI nd, lI (x5 &&& (7 : Int32)), lU, lU, lU] [])) (fun _ k => XS.ifNo X72.here hx rfl (hb hby at_142) rfl ((if0 _ _).trans (teq hc142).2) k) ?_
      refine Ds (B := T72.setTop (mkF m 191 #[lI x0, lI x1, lI x2, lI x3, lI x4, lI x5, lR b1, lR b39, lI 1, lI cnt, lI nb, lI nc, lI nd, lI (x5 &&& (7 : Int32)), lI x0, lU, lU] [])) (fun _ k => XS.iloadN X72.here hx rfl (hb hby at_145) rfl (XS.istore X72.here hx rfl (hb hby at_146) rfl (l' := #[lI x0, lI x1, lI x2, lI x3, lI x4, lI x5, lR b1, lR b39, lI 1, lI cnt, lI nb, lI nc, lI nd, lI (x5 &&& (7 : Int32)), lI x0, lU, lU]) rfl (XS.goto X72.here hx rfl (pc0 := 148) (pc' := 191) rfl (hb hby at_148) (by decide) (by decide) k))) ?_
      exact j191 x0 
    · refine Ds (B := T72.setTop (mkF m 151 #[lI x0, lI x1, lI x2, lI x3, lI x4, lI x5, lR b1, lR b39, lI 1, lI cnt, lI nb, lI nc, lI nd, lI (x5 &&& (7 : Int32)), lU, lU, lU] [])) (fun _ k => XS.ifYes X72.here hx rfl (pc0 := 142) (pc' := 151) rfl (hb hby at_142) rfl ((if0 _ _).trans (feq hc142).2) (by decide) (by decide) k) ?_
      refine Ds (B := T72.setTop (mkF m 154 #[lI x0, lI x1, lI x2, lI x3, lI x4, lI x5, lR b1, lR b39, lI 1, lI cnt, lI nb, lI nc, lI nd, lI (x5 &&& (7 : Int32)), lU, lU, lU] [(.int 1), (.int (x5 &&& (7 : Int32)))])) (fun _ k => XS.iload X72.here hx rfl (hb hby at_151) rfl (XS.iconst X72.here hx rfl (hb hby at_153) k)) ?_
      by_cases hc154 : (x5 &&& (7 : Int32)) = (1 : Int32)
      · refine Ds (B := T72.setTop (mkF m 191 #[lI x0, lI x1, lI x2, lI x3, lI x4, lI x5, lR b1, lR b39, lI 1, lI cnt, lI nb, lI nc, lI nd, lI (x5 &&& (7 : Int32)), lI x1, lU, lU] [])) (fun _ k => XS.icmpNo X72.here hx rfl (hb hby at_154) rfl (teq hc154).2 (XS.iloadN X72.here hx rfl (hb hby at_157) rfl (XS.istore X72.here hx rfl (hb hby at_158) rfl (l' := #[lI x0, lI x1, lI x2, lI x3, lI x4, lI x5, lR b1, lR b39, lI 1, lI cnt, lI nb, lI nc, lI nd, lI (x5 &&& (7 : Int32)), lI x1, lU, lU]) rfl (XS.goto X72.here hx rfl (pc0 := 160) (pc' := 191) rfl (hb hby at_160) (by decide) (by decide) k)))) ?_
        exact j191 x1 
      · refine Ds (B := T72.setTop (mkF m 166 #[lI x0, lI x1, lI x2, lI x3, lI x4, lI x5, lR b1, lR b39, lI 1, lI cnt, lI nb, lI nc, lI nd, lI (x5 &&& (7 : Int32)), lU, lU, lU] [(.int 2), (.int (x5 &&& (7 : Int32)))])) (fun _ k => XS.icmpYes X72.here hx rfl (pc0 := 154) (pc' := 163) rfl (hb hby at_154) rfl (feq hc154).2 (by decide) (by decide) (XS.iload X72.here hx rfl (hb hby at_163) rfl (XS.iconst X72.here hx rfl (hb hby at_165) k))) ?_
        by_cases hc166 : (x5 &&& (7 : Int32)) = (2 : Int32)
        · refine Ds (B := T72.setTop (mkF m 191 #[lI x0, lI x1, lI x2, lI x3, lI x4, lI x5, lR b1, lR b39, lI 1, lI cnt, lI nb, lI nc, lI nd, lI (x5 &&& (7 : Int32)), lI x2, lU, lU] [])) (fun _ k => XS.icmpNo X72.here hx rfl (hb hby at_166) rfl (teq hc166).2 (XS.iloadN X72.here hx rfl (hb hby at_169) rfl (XS.istore X72.here hx rfl (hb hby at_170) rfl (l' := #[lI x0, lI x1, lI x2, lI x3, lI x4, lI x5, lR b1, lR b39, lI 1, lI cnt, lI nb, lI nc, lI nd, lI (x5 &&& (7 : Int32)), lI x2, lU, lU]) rfl (XS.goto X72.here hx rfl (pc0 := 172) (pc' := 191) rfl (hb hby at_172) (by decide) (by decide) k)))) ?_
          exact j191 x2 
        · refine Ds (B := T72.setTop (mkF m 178 #[lI x0, lI x1, lI x2, lI x3, lI x4, lI x5, lR b1, lR b39, lI 1, lI cnt, lI nb, lI nc, lI nd, lI (x5 &&& (7 : Int32)), lU, lU, lU] [(.int 3), (.int (x5 &&& (7 : Int32)))])) (fun _ k => XS.icmpYes X72.here hx rfl (pc0 := 166) (pc' := 175) rfl (hb hby at_166) rfl (feq hc166).2 (by decide) (by decide) (XS.iload X72.here hx rfl (hb hby at_175) rfl (XS.iconst X72.here hx rfl (hb hby at_177) k))) ?_
          by_cases hc178 : (x5 &&& (7 : Int32)) = (3 : Int32)
          · refine Ds (B := T72.setTop (mkF m 191 #[lI x0, lI x1, lI x2, lI x3, lI x4, lI x5, lR b1, lR b39, lI 1, lI cnt, lI nb, lI nc, lI nd, lI (x5 &&& (7 : Int32)), lI x3, lU, lU] [])) (fun _ k => XS.icmpNo X72.here hx rfl (hb hby at_178) rfl (teq hc178).2 (XS.iloadN X72.here hx rfl (hb hby at_181) rfl (XS.istore X72.here hx rfl (hb hby at_182) rfl (l' := #[lI x0, lI x1, lI x2, lI x3, lI x4, lI x5, lR b1, lR b39, lI 1, lI cnt, lI nb, lI nc, lI nd, lI (x5 &&& (7 : Int32)), lI x3, lU, lU]) rfl (XS.goto X72.here hx rfl (pc0 := 184) (pc' := 191) rfl (hb hby at_184) (by decide) (by decide) k)))) ?_
            exact j191 x3 
          · refine Ds (B := T72.setTop (mkF m 191 #[lI x0, lI x1, lI x2, lI x3, lI x4, lI x5, lR b1, lR b39, lI 1, lI cnt, lI nb, lI nc, lI nd, lI (x5 &&& (7 : Int32)), lI x4, lU, lU] [])) (fun _ k => XS.icmpYes X72.here hx rfl (pc0 := 178) (pc' := 187) rfl (hb hby at_178) rfl (feq hc178).2 (by decide) (by decide) (XS.iload X72.here hx rfl (hb hby at_187) rfl (XS.istore X72.here hx rfl (hb hby at_189) rfl (l' := #[lI x0, lI x1, lI x2, lI x3, lI x4, lI x5, lR b1, lR b39, lI 1, lI cnt, lI nb, lI nc, lI nd, lI (x5 &&& (7 : Int32)), lI x4, lU, lU]) rfl k))) ?_
            exact j191 x4 
  refine Ds (B := T72.setTop (mkF m 78 #[lI x0, lI x1, lI x2, lI x3, lI x4, lI x5, lR b1, lR b39, lI 1, lI 2, lU, lU, lU, lU, lU, lU, lU] [(.int x0), (.int x1)])) (fun _ k => XS.iloadN X72.here hx rfl (hb hby at_76) rfl (XS.iloadN X72.here hx rfl (hb hby at_77) rfl k)) ?_
  by_cases hc78 : x1 = x0
  · refine Ds (B := T72.setTop (mkF m 97 #[lI x0, lI x1, lI x2, lI x3, lI x4, lI x5, lR b1, lR b39, lI 1, lI 2, lI 1, lU, lU, lU, lU, lU, lU] [(.int x0), (.int x2)])) (fun _ k => XS.icmpNo X72.here hx rfl (hb hby at_78) rfl (teq hc78).2 (XS.iload X72.here hx rfl (hb hby at_81) rfl (XS.istore X72.here hx rfl (hb hby at_83) rfl (l' := #[lI x0, lI x1, lI x2, lI x3, lI x4, lI x5, lR b1, lR b39, lI 1, lI 2, lI 1, lU, lU, lU, lU, lU, lU]) rfl (XS.goto X72.here hx rfl (pc0 := 85) (pc' := 95) rfl (hb hby at_85) (by decide) (by decide) (XS.iloadN X72.here hx rfl (hb hby at_95) rfl (XS.iloadN X72.here hx rfl (hb hby at_96) rfl k)))))) ?_
    by_cases hc97 : x2 = x0
    · refine Ds (B := T72.setTop (mkF m 130 #[lI x0, lI x1, lI x2, lI x3, lI x4, lI x5, lR b1, lR b39, lI 1, lI 2, lI 1, lI 1, lI 2, lU, lU, lU, lU] [])) (fun _ k => XS.icmpNo X72.here hx rfl (hb hby at_97) rfl (teq hc97).2 (XS.iload X72.here hx rfl (hb hby at_100) rfl (XS.istore X72.here hx rfl (hb hby at_102) rfl (l' := #[lI x0, lI x1, lI x2, lI x3, lI x4, lI x5, lR b1, lR b39, lI 1, lI 2, lI 1, lI 1, lU, lU, lU, lU, lU]) rfl (XS.goto X72.here hx rfl (pc0 := 104) (pc' := 126) rfl (hb hby at_104) (by decide) (by decide) (XS.iload X72.here hx rfl (hb hby at_126) rfl (XS.istore X72.here hx rfl (hb hby at_128) rfl (l' := #[lI x0, lI x1, lI x2, lI x3, lI x4, lI x5, lR b1, lR b39, lI 1, lI 2, lI 1, lI 1, lI 2, lU, lU, lU, lU]) rfl k)))))) ?_
      refine Ds (B := T72.setTop (mkF m 133 #[lI x0, lI x1, lI x2, lI x3, lI x4, lI x5, lR b1, lR b39, lI 1, lI 3, lI 1, lI 1, lI 2, lU, lU, lU, lU] [])) (fun _ k => XS.iinc X72.here hx rfl (hb hby at_130) rfl (l' := #[lI x0, lI x1, lI x2, lI x3, lI x4, lI x5, lR b1, lR b39, lI 1, lI 3, lI 1, lI 1, lI 2, lU, lU, lU, lU]) rfl k) ?_
      exact j133 (3 : Int32) (1 : Int32) (1 : Int32) (2 : Int32) (own_j1 hc78 hc97)
    · refine Ds (B := T72.setTop (mkF m 109 #[lI x0, lI x1, lI x2, lI x3, lI x4, lI x5, lR b1, lR b39, lI 1, lI 2, lI 1, lU, lU, lU, lU, lU, lU] [(.int x1), (.int x2)])) (fun _ k => XS.icmpYes X72.here hx rfl (pc0 := 97) (pc' := 107) rfl (hb hby at_97) rfl (feq hc97).2 (by decide) (by decide) (XS.iloadN X72.here hx rfl (hb hby at_107) rfl (XS.iloadN X72.here hx rfl (hb hby at_108) rfl k))) ?_
      by_cases hc109 : x2 = x1
      · refine Ds (B := T72.setTop (mkF m 130 #[lI x0, lI x1, lI x2, lI x3, lI x4, lI x5, lR b1, lR b39, lI 1, lI 2, lI 1, lI 1, lI 2, lU, lU, lU, lU] [])) (fun _ k => XS.icmpNo X72.here hx rfl (hb hby at_109) rfl (teq hc109).2 (XS.iload X72.here hx rfl (hb hby at_112) rfl (XS.istore X72.here hx rfl (hb hby at_114) rfl (l' := #[lI x0, lI x1, lI x2, lI x3, lI x4, lI x5, lR b1, lR b39, lI 1, lI 2, lI 1, lI 1, lU, lU, lU, lU, lU]) rfl (XS.goto X72.here hx rfl (pc0 := 116) (pc' := 126) rfl (hb hby at_116) (by decide) (by decide) (XS.iload X72.here hx rfl (hb hby at_126) rfl (XS.istore X72.here hx rfl (hb hby at_128) rfl (l' := #[lI x0, lI x1, lI x2, lI x3, lI x4, lI x5, lR b1, lR b39, lI 1, lI 2, lI 1, lI 1, lI 2, lU, lU, lU, lU]) rfl k)))))) ?_
        refine Ds (B := T72.setTop (mkF m 133 #[lI x0, lI x1, lI x2, lI x3, lI x4, lI x5, lR b1, lR b39, lI 1, lI 3, lI 1, lI 1, lI 2, lU, lU, lU, lU] [])) (fun _ k => XS.iinc X72.here hx rfl (hb hby at_130) rfl (l' := #[lI x0, lI x1, lI x2, lI x3, lI x4, lI x5, lR b1, lR b39, lI 1, lI 3, lI 1, lI 1, lI 2, lU, lU, lU, lU]) rfl k) ?_
        exact j133 (3 : Int32) (1 : Int32) (1 : Int32) (2 : Int32) (absurd (hc109.trans hc78) hc97)
      · refine Ds (B := T72.setTop (mkF m 130 #[lI x0, lI x1, lI x2, lI x3, lI x4, lI x5, lR b1, lR b39, lI 1, lI 3, lI 1, lI 2, lI 3, lU, lU, lU, lU] [])) (fun _ k => XS.icmpYes X72.here hx rfl (pc0 := 109) (pc' := 119) rfl (hb hby at_109) rfl (feq hc109).2 (by decide) (by decide) (XS.iload X72.here hx rfl (hb hby at_119) rfl (XS.istore X72.here hx rfl (hb hby at_121) rfl (l' := #[lI x0, lI x1, lI x2, lI x3, lI x4, lI x5, lR b1, lR b39, lI 1, lI 2, lI 1, lI 2, lU, lU, lU, lU, lU]) rfl (XS.iinc X72.here hx rfl (hb hby at_123) rfl (l' := #[lI x0, lI x1, lI x2, lI x3, lI x4, lI x5, lR b1, lR b39, lI 1, lI 3, lI 1, lI 2, lU, lU, lU, lU, lU]) rfl (XS.iload X72.here hx rfl (hb hby at_126) rfl (XS.istore X72.here hx rfl (hb hby at_128) rfl (l' := #[lI x0, lI x1, lI x2, lI x3, lI x4, lI x5, lR b1, lR b39, lI 1, lI 3, lI 1, lI 2, lI 3, lU, lU, lU, lU]) rfl k)))))) ?_
        refine Ds (B := T72.setTop (mkF m 133 #[lI x0, lI x1, lI x2, lI x3, lI x4, lI x5, lR b1, lR b39, lI 1, lI 4, lI 1, lI 2, lI 3, lU, lU, lU, lU] [])) (fun _ k => XS.iinc X72.here hx rfl (hb hby at_130) rfl (l' := #[lI x0, lI x1, lI x2, lI x3, lI x4, lI x5, lR b1, lR b39, lI 1, lI 4, lI 1, lI 2, lI 3, lU, lU, lU, lU]) rfl k) ?_
        exact j133 (4 : Int32) (1 : Int32) (2 : Int32) (3 : Int32) (own_j2 hc78 hc97 hc109)
  · refine Ds (B := T72.setTop (mkF m 97 #[lI x0, lI x1, lI x2, lI x3, lI x4, lI x5, lR b1, lR b39, lI 1, lI 3, lI 2, lU, lU, lU, lU, lU, lU] [(.int x0), (.int x2)])) (fun _ k => XS.icmpYes X72.here hx rfl (pc0 := 78) (pc' := 88) rfl (hb hby at_78) rfl (feq hc78).2 (by decide) (by decide) (XS.iload X72.here hx rfl (hb hby at_88) rfl (XS.istore X72.here hx rfl (hb hby at_90) rfl (l' := #[lI x0, lI x1, lI x2, lI x3, lI x4, lI x5, lR b1, lR b39, lI 1, lI 2, lI 2, lU, lU, lU, lU, lU, lU]) rfl (XS.iinc X72.here hx rfl (hb hby at_92) rfl (l' := #[lI x0, lI x1, lI x2, lI x3, lI x4, lI x5, lR b1, lR b39, lI 1, lI 3, lI 2, lU, lU, lU, lU, lU, lU]) rfl (XS.iloadN X72.here hx rfl (hb hby at_95) rfl (XS.iloadN X72.here hx rfl (hb hby at_96) rfl k)))))) ?_
    by_cases hc97 : x2 = x0
    · refine Ds (B := T72.setTop (mkF m 130 #[lI x0, lI x1, lI x2, lI x3, lI x4, lI x5, lR b1, lR b39, lI 1, lI 3, lI 2, lI 1, lI 3, lU, lU, lU, lU] [])) (fun _ k => XS.icmpNo X72.here hx rfl (hb hby at_97) rfl (teq hc97).2 (XS.iload X72.here hx rfl (hb hby at_100) rfl (XS.istore X72.here hx rfl (hb hby at_102) rfl (l' := #[lI x0, lI x1, lI x2, lI x3, lI x4, lI x5, lR b1, lR b39, lI 1, lI 3, lI 2, lI 1, lU, lU, lU, lU, lU]) rfl (XS.goto X72.here hx rfl (pc0 := 104) (pc' := 126) rfl (hb hby at_104) (by decide) (by decide) (XS.iload X72.here hx rfl (hb hby at_126) rfl (XS.istore X72.here hx rfl (hb hby at_128) rfl (l' := #[lI x0, lI x1, lI x2, lI x3, lI x4, lI x5, lR b1, lR b39, lI 1, lI 3, lI 2, lI 1, lI 3, lU, lU, lU, lU]) rfl k)))))) ?_
      refine Ds (B := T72.setTop (mkF m 133 #[lI x0, lI x1, lI x2, lI x3, lI x4, lI x5, lR b1, lR b39, lI 1, lI 4, lI 2, lI 1, lI 3, lU, lU, lU, lU] [])) (fun _ k => XS.iinc X72.here hx rfl (hb hby at_130) rfl (l' := #[lI x0, lI x1, lI x2, lI x3, lI x4, lI x5, lR b1, lR b39, lI 1, lI 4, lI 2, lI 1, lI 3, lU, lU, lU, lU]) rfl k) ?_
      exact j133 (4 : Int32) (2 : Int32) (1 : Int32) (3 : Int32) (own_j3 hc78 hc97)
    · refine Ds (B := T72.setTop (mkF m 109 #[lI x0, lI x1, lI x2, lI x3, lI x4, lI x5, lR b1, lR b39, lI 1, lI 3, lI 2, lU, lU, lU, lU, lU, lU] [(.int x1), (.int x2)])) (fun _ k => XS.icmpYes X72.here hx rfl (pc0 := 97) (pc' := 107) rfl (hb hby at_97) rfl (feq hc97).2 (by decide) (by decide) (XS.iloadN X72.here hx rfl (hb hby at_107) rfl (XS.iloadN X72.here hx rfl (hb hby at_108) rfl k))) ?_
      by_cases hc109 : x2 = x1
      · refine Ds (B := T72.setTop (mkF m 130 #[lI x0, lI x1, lI x2, lI x3, lI x4, lI x5, lR b1, lR b39, lI 1, lI 3, lI 2, lI 2, lI 3, lU, lU, lU, lU] [])) (fun _ k => XS.icmpNo X72.here hx rfl (hb hby at_109) rfl (teq hc109).2 (XS.iload X72.here hx rfl (hb hby at_112) rfl (XS.istore X72.here hx rfl (hb hby at_114) rfl (l' := #[lI x0, lI x1, lI x2, lI x3, lI x4, lI x5, lR b1, lR b39, lI 1, lI 3, lI 2, lI 2, lU, lU, lU, lU, lU]) rfl (XS.goto X72.here hx rfl (pc0 := 116) (pc' := 126) rfl (hb hby at_116) (by decide) (by decide) (XS.iload X72.here hx rfl (hb hby at_126) rfl (XS.istore X72.here hx rfl (hb hby at_128) rfl (l' := #[lI x0, lI x1, lI x2, lI x3, lI x4, lI x5, lR b1, lR b39, lI 1, lI 3, lI 2, lI 2, lI 3, lU, lU, lU, lU]) rfl k)))))) ?_
        refine Ds (B := T72.setTop (mkF m 133 #[lI x0, lI x1, lI x2, lI x3, lI x4, lI x5, lR b1, lR b39, lI 1, lI 4, lI 2, lI 2, lI 3, lU, lU, lU, lU] [])) (fun _ k => XS.iinc X72.here hx rfl (hb hby at_130) rfl (l' := #[lI x0, lI x1, lI x2, lI x3, lI x4, lI x5, lR b1, lR b39, lI 1, lI 4, lI 2, lI 2, lI 3, lU, lU, lU, lU]) rfl k) ?_
        exact j133 (4 : Int32) (2 : Int32) (2 : Int32) (3 : Int32) (own_j4 hc78 hc97 hc109)
      · refine Ds (B := T72.setTop (mkF m 130 #[lI x0, lI x1, lI x2, lI x3, lI x4, lI x5, lR b1, lR b39, lI 1, lI 4, lI 2, lI 3, lI 4, lU, lU, lU, lU] [])) (fun _ k => XS.icmpYes X72.here hx rfl (pc0 := 109) (pc' := 119) rfl (hb hby at_109) rfl (feq hc109).2 (by decide) (by decide) (XS.iload X72.here hx rfl (hb hby at_119) rfl (XS.istore X72.here hx rfl (hb hby at_121) rfl (l' := #[lI x0, lI x1, lI x2, lI x3, lI x4, lI x5, lR b1, lR b39, lI 1, lI 3, lI 2, lI 3, lU, lU, lU, lU, lU]) rfl (XS.iinc X72.here hx rfl (hb hby at_123) rfl (l' := #[lI x0, lI x1, lI x2, lI x3, lI x4, lI x5, lR b1, lR b39, lI 1, lI 4, lI 2, lI 3, lU, lU, lU, lU, lU]) rfl (XS.iload X72.here hx rfl (hb hby at_126) rfl (XS.istore X72.here hx rfl (hb hby at_128) rfl (l' := #[lI x0, lI x1, lI x2, lI x3, lI x4, lI x5, lR b1, lR b39, lI 1, lI 4, lI 2, lI 3, lI 4, lU, lU, lU, lU]) rfl k)))))) ?_
        refine Ds (B := T72.setTop (mkF m 133 #[lI x0, lI x1, lI x2, lI x3, lI x4, lI x5, lR b1, lR b39, lI 1, lI 5, lI 2, lI 3, lI 4, lU, lU, lU, lU] [])) (fun _ k => XS.iinc X72.here hx rfl (hb hby at_130) rfl (l' := #[lI x0, lI x1, lI x2, lI x3, lI x4, lI x5, lR b1, lR b39, lI 1, lI 5, lI 2, lI 3, lI 4, lU, lU, lU, lU]) rfl k) ?_
        exact j133 (5 : Int32) (2 : Int32) (3 : Int32) (4 : Int32) (own_j5 hc78 hc97 hc109)
set_option maxRecDepth 65536 in
set_option maxHeartbeats 40000000 in
theorem comes_1 {Post : Tables → Env → Array Value → State → Outcome → State → Prop} (hpost : ∀ tb e args s v u, (limb_1_1.after args s (.returned v) u = true ∧ limb_1_2.after args s (.returned v) u = true ∧ True) → FrameEnd s (.returned v) u (Jvm.fieldLocs frame_1_writes args s ++ Jvm.arrayLocs frame_1_arrays args s ++ Jvm.staticLocs frame_1_statics s) 48 192 → Post tb e args s (.returned v) u) :
    ArmFor flags0 classFile x code maxLocals ret World_1 tables_1 room_1 Calls_1 rest_1 Pre_1 Post := by
  intro l hfl _ _ p e ha hc hk s m args below hf hA hF happ hP
  obtain ⟨hcalls, hrest, hpre⟩ := hP
  obtain ⟨-, -, -, hnamed, -, -, -, hat⟩ := (Spec.applies_iff hf).mp happ
  obtain ⟨hg, hn⟩ := and_e (Cond.before_iff.mp (show (Jvm.Cond.and given_1 narrow_1).before args s = true from hpre))
  obtain ⟨g1, g2⟩ := and_e hg
  obtain ⟨g3, g4⟩ := and_e g2
  obtain ⟨g5, g6⟩ := and_e g4
  obtain ⟨g7, g8⟩ := and_e g6
  obtain ⟨g9, g10⟩ := and_e g8
  obtain ⟨g11, g12⟩ := and_e g10
  obtain ⟨w0, w1, w2, w3, w4, w5, rfl⟩ : ∃ w0 w1 w2 w3 w4 w5 : Value, args = #[w0, w1, w2, w3, w4, w5] := by
    have hs : args.size = 6 := by simpa [Cond.value, given_1] using g1
    obtain ⟨L⟩ := args
    match L, hs with
    | [w0, w1, w2, w3, w4, w5], _ => exact ⟨w0, w1, w2, w3, w4, w5, rfl⟩
  have hw := fun d (hd : d ∈ tables_1) => atoms_spec (ws := Jvm.Cond.code x code maxLocals ret :: tables_1) hat d (List.mem_cons_of_mem _ hd)
  have hfit : Fit s := fun {y c} hc i hi => by
    obtain ⟨ha, rfl⟩ := Array.getElem?_eq_some_iff.mp hc
    have q := List.all_eq_true.mp ((Array.all_eq_true_iff_forall_mem.mp hF) _ (Array.getElem_mem ha)) i (List.mem_range.mpr hi)
    simpa [Array.getElem?_eq_getElem hi] using q
  obtain ⟨hsets, hown0⟩ := atoms_of _ (rest_1_c_eq ▸ (show rest_1_c.before _ s = true from hrest))
  have hr0 := Cond.before_iff.mp hown0
  obtain ⟨i0, ei0⟩ := is_v g3
  obtain rfl : w0 = (.int i0) := Option.some.inj ei0
  obtain ⟨i1, ei1⟩ := is_v g5
  obtain rfl : w1 = (.int i1) := Option.some.inj ei1
  obtain ⟨i2, ei2⟩ := is_v g7
  obtain rfl : w2 = (.int i2) := Option.some.inj ei2
  obtain ⟨i3, ei3⟩ := is_v g9
  obtain rfl : w3 = (.int i3) := Option.some.inj ei3
  obtain ⟨i4, ei4⟩ := is_v g11
  obtain rfl : w4 = (.int i4) := Option.some.inj ei4
  obtain ⟨i5, ei5⟩ := is_v g12
  obtain rfl : w5 = (.int i5) := Option.some.inj ei5
  obtain ⟨w_D, ev_D⟩ := arr_v (Cond.before_iff.mp (hsets _ (List.mem_of_getElem? (i := 6) rfl)))
  have S_D := Sta.start ev_D (Or.inr ⟨(hw _ mm2), hsets _ (List.mem_of_getElem? (i := 2) rfl)⟩)
  obtain ⟨c_D, A_D⟩ := Arr.start ev_D (Cond.before_iff.mp (hsets _ (List.mem_of_getElem? (i := 6) rfl)))
  have z_D := own_len0 ev_D A_D (Cond.before_iff.mp (hsets _ (List.mem_of_getElem? (i := 8) rfl)))
  have V_D : Arv s s.heap w_D c_D.cls (.object "java/lang/Object") (0 : Int32) [] .null := Arv.start hfit A_D (by omega) (by rw [z_D]; rfl) (by decide) rfl trivial
  obtain ⟨n, o, h1, h2, h3, _, L, rfl, ⟨rfl, N⟩, hq⟩ := rm0 l s _ hw tables_1 i0 i1 i2 i3 i4 i5 w_D c_D.cls s.heap s.heap.size (Nat.le_refl _) S_D V_D p e ha hc hk s m _ below hf ((Spec.applies_iff_loose hf).mp happ).1 ⟨rfl, State.Warmed39.refl s, rfl⟩ trivial
  refine ⟨n, _, h1, h2, h3, hpost _ _ _ _ _ _ ⟨Cond.after_iff.mpr rfl, Cond.after_iff.mpr (eq_i res_at (Term.int_eval (1)) rfl), trivial⟩ ⟨hq.1, hq.2.1, (hq.2.2.sift fun y hy => Or.inr (N y hy)).mono (by decide) (by decide)⟩⟩
theorem main_1_1 : Claimed_1_1 := comes_1 fun _ _ _ _ _ _ h hF => ⟨h.1, hF⟩
theorem main_1_2 : Claimed_1_2 := comes_1 fun _ _ _ _ _ _ h hF => ⟨h.2.1, hF⟩
end Jvm.Pilot.@@N@@
namespace Jvm.Pilot.@@N@@
open Jvm Jvm.ClassFile Sem Op Lib Jvm.Free Jvm.Stand Jvm.Pilot.@@N@@.Jvm.D
/-! MADE BY PROGRAM (witnessworld.py) out of the Statement's table words and the real class files: 23 classes; the members and pool entries that the words name. The judged class is class 1, her method 1. -/
namespace start1
open Jvm.ClassFile
def u (s : String) : CpInfo := .utf8 (stringToUtf16 s)
/-- a pool by its gaps: so many unusable entries, then the entry; so many at the end -/
def gap : Nat → List CpInfo → List CpInfo
  | 0, r => r
  | n + 1, r => .unusable :: gap n r
def poolList (es : List (Nat × CpInfo)) (last : Nat) : List CpInfo := es.foldr (fun e r => gap e.1 (e.2 :: r)) (gap last [])
def pool (es : List (Nat × CpInfo)) (last : Nat) : Array CpInfo := ⟨poolList es last⟩
def fileOf (pool : Array CpInfo) (this : Nat) (attrs : Array Attribute := #[]) (ms : Array MethodInfo := #[]) (fl : Nat := 33) (sup : Nat := 0) (ifs : Array Nat := #[]) (fds : Array FieldInfo := #[]) : ClassFile where
  minorVersion := 0
  majorVersion := 65
  constantPool := pool
  accessFlags := fl
  thisClass := this
  superClass := sup
  interfaces := ifs
  fields := fds
  methods := ms
  attributes := attrs
def plain (name : String) (sup : Option ClassId) : Class where
  name := name
  kind := .ordinary
  loader := none
  accessFlags := 33
  super := sup
  interfaces := #[]
  cf := none
  fields := #[]
  methods := #[]
  instanceTypes := #[]
  staticTypes := #[]
  resolved := #[]
  callSites := []
  init := .initialized
  statics := none
  mirror := none

def pool0 : Array CpInfo := pool [(5, u "<init>"), (0, u "()V"), (1, .class_ 10), (1, u "java/lang/Object"), (85, u "clone"), (0, u "()Ljava/lang/Object;")] 26

def k0c0 : Code := { maxStack := 0, maxLocals := 1, code := object_method_1_code, exceptionTable := #[], attributes := #[] }
def k0m0 : Method := { name := "<init>", desc := "()V", sig := { parameters := [], returnType := none }, accessFlags := 1, code := some k0c0 }
def k0m1 : Method := { name := "clone", desc := "()Ljava/lang/Object;", sig := { parameters := [], returnType := some (.object "java/lang/Object") }, accessFlags := 260, code := none }
/-- java/lang/Object -/
def k0 : Class := { plain "java/lang/Object" none with
  accessFlags := 33
  interfaces := #[]
  cf := some (fileOf pool0 8 #[] #[{ accessFlags := 1, nameIndex := 5, descriptorIndex := 6, attributes := #[] }, { accessFlags := 260, nameIndex := 96, descriptorIndex := 97, attributes := #[] }] 33 0 #[] #[])
  fields := #[]
  methods := #[k0m0, k0m1]
  instanceTypes := #[]
  staticTypes := #[]
  resolved := Array.replicate 124 none
  statics := none }

def pool1 : Array CpInfo := pool [(2, .class_ 4), (0, .nameAndType 5 6), (0, u "java/lang/Object"), (0, u "<init>"), (0, u "()V"), (0, .class_ 8), (0, u "java/util/ArrayList"), (0, .methodref 7 3), (0, .methodref 7 11), (0, .nameAndType 12 13), (0, u "add"), (0, u "(Ljava/lang/Object;)Z"), (0, .class_ 15), (0, u "com/example/percurso/percurso/suite/PrefixTree"), (0, .class_ 17), (0, u "com/example/percurso/percurso/suite/Suite"), (0, .methodref 16 19), (0, .nameAndType 5 20), (0, u "(Ljava/util/List;)V"), (0, .methodref 14 22), (0, .nameAndType 5 23), (0, u "(Lcom/example/percurso/percurso/suite/Suite;)V"), (0, .methodref 14 25), (0, .nameAndType 26 27), (0, u "child"), (0, u "(II)I"), (0, .class_ 29), (0, u "com/example/percurso/percurso/suite/PrefixTreeChildPinLaw"), (2, u "law"), (0, u "(IIIIII)Z")] 3

def k1m0 : Method := { name := "<init>", desc := "()V", sig := { parameters := [], returnType := none }, accessFlags := 1, code := none }
def k1c1 : Code := { maxStack := 5, maxLocals := 17, code := code, exceptionTable := #[], attributes := #[] }
def k1m1 : Method := { name := "law", desc := "(IIIIII)Z", sig := { parameters := [.int, .int, .int, .int, .int, .int], returnType := some .boolean }, accessFlags := 9, code := some k1c1 }
/-- com/example/percurso/percurso/suite/PrefixTreeChildPinLaw -/
def k1 : Class := { plain "com/example/percurso/percurso/suite/PrefixTreeChildPinLaw" (some 0) with
  accessFlags := 49
  interfaces := #[]
  cf := some (fileOf pool1 28 #[] #[{ accessFlags := 1, nameIndex := 5, descriptorIndex := 6, attributes := #[] }, { accessFlags := 9, nameIndex := 32, descriptorIndex := 33, attributes := #[] }] 49 2 #[] #[])
  fields := #[]
  methods := #[k1m0, k1m1]
  instanceTypes := #[]
  staticTypes := #[]
  resolved := Array.replicate 37 none
  statics := none }

def pool2 : Array CpInfo := pool [(8, .class_ 10), (1, u "java/lang/Iterable"), (24, .class_ 36), (0, u "java/lang/Object")] 25

/-- java/lang/Iterable -/
def k2 : Class := { plain "java/lang/Iterable" (some 0) with
  accessFlags := 1537
  interfaces := #[]
  cf := some (fileOf pool2 8 #[] #[] 1537 35 #[] #[])
  fields := #[]
  methods := #[]
  instanceTypes := #[]
  staticTypes := #[]
  resolved := Array.replicate 62 none
  statics := none }

def pool3 : Array CpInfo := pool [(10, .class_ 12), (1, u "java/util/Collection"), (47, .class_ 61), (0, u "java/lang/Object"), (0, .class_ 63), (0, u "java/lang/Iterable")] 51

/-- java/util/Collection -/
def k3 : Class := { plain "java/util/Collection" (some 0) with
  accessFlags := 1537
  interfaces := #[2]
  cf := some (fileOf pool3 10 #[] #[] 1537 60 #[62] #[])
  fields := #[]
  methods := #[]
  instanceTypes := #[]
  staticTypes := #[]
  resolved := Array.replicate 115 none
  statics := none }

def pool4 : Array CpInfo := pool [(1, .methodref 2 3), (0, .class_ 4), (0, .nameAndType 5 6), (0, u "java/lang/Object"), (0, u "<init>"), (0, u "()V"), (1, .class_ 10), (1, u "java/util/AbstractCollection"), (66, .class_ 78), (0, u "java/util/Collection")] 81

def k4c0 : Code := { maxStack := 1, maxLocals := 1, code := jdk_22_method_1_code, exceptionTable := #[], attributes := #[] }
def k4m0 : Method := { name := "<init>", desc := "()V", sig := { parameters := [], returnType := none }, accessFlags := 4, code := some k4c0 }
/-- java/util/AbstractCollection -/
def k4 : Class := { plain "java/util/AbstractCollection" (some 0) with
  accessFlags := 1057
  interfaces := #[3]
  cf := some (fileOf pool4 8 #[] #[{ accessFlags := 4, nameIndex := 5, descriptorIndex := 6, attributes := #[] }] 1057 2 #[77] #[])
  fields := #[]
  methods := #[k4m0]
  instanceTypes := #[]
  staticTypes := #[]
  resolved := Array.replicate 160 none
  statics := none }

def pool5 : Array CpInfo := pool [(8, .class_ 10), (1, u "java/util/SequencedCollection"), (15, .class_ 27), (0, u "java/lang/Object"), (0, .class_ 29), (0, u "java/util/Collection")] 27

/-- java/util/SequencedCollection -/
def k5 : Class := { plain "java/util/SequencedCollection" (some 0) with
  accessFlags := 1537
  interfaces := #[3]
  cf := some (fileOf pool5 8 #[] #[] 1537 26 #[28] #[])
  fields := #[]
  methods := #[]
  instanceTypes := #[]
  staticTypes := #[]
  resolved := Array.replicate 57 none
  statics := none }

def pool6 : Array CpInfo := pool [(8, .class_ 10), (1, u "java/util/List"), (64, u "get"), (0, u "(I)Ljava/lang/Object;"), (2, u "size"), (0, u "()I"), (22, .class_ 104), (0, u "java/lang/Object"), (15, .class_ 121), (0, u "java/util/SequencedCollection")] 129

def k6m0 : Method := { name := "size", desc := "()I", sig := { parameters := [], returnType := some .int }, accessFlags := 1025, code := none }
def k6m1 : Method := { name := "get", desc := "(I)Ljava/lang/Object;", sig := { parameters := [.int], returnType := some (.object "java/lang/Object") }, accessFlags := 1025, code := none }
/-- java/util/List -/
def k6 : Class := { plain "java/util/List" (some 0) with
  accessFlags := 1537
  interfaces := #[5]
  cf := some (fileOf pool6 8 #[] #[{ accessFlags := 1025, nameIndex := 79, descriptorIndex := 80, attributes := #[] }, { accessFlags := 1025, nameIndex := 75, descriptorIndex := 76, attributes := #[] }] 1537 103 #[120] #[])
  fields := #[]
  methods := #[k6m0, k6m1]
  instanceTypes := #[]
  staticTypes := #[]
  resolved := Array.replicate 251 none
  statics := none }

def pool7 : Array CpInfo := pool [(1, .methodref 2 3), (0, .class_ 4), (0, .nameAndType 5 6), (0, u "java/util/AbstractCollection"), (0, u "<init>"), (0, u "()V"), (0, .fieldref 8 9), (0, .class_ 10), (0, .nameAndType 11 12), (0, u "java/util/AbstractList"), (0, u "modCount"), (0, u "I"), (64, .class_ 78), (0, u "java/util/AbstractList$Itr"), (3, .class_ 83), (0, u "java/util/AbstractList$ListItr"), (9, .class_ 94), (0, u "java/util/AbstractList$RandomAccessSubList"), (3, .class_ 99), (0, u "java/util/AbstractList$SubList"), (33, .class_ 134), (0, u "java/util/List"), (73, .class_ 209), (0, u "java/util/AbstractList$SubList$1"), (0, .class_ 211), (0, u "java/util/AbstractList$RandomAccessSpliterator")] 6

def k7c0 : Code := { maxStack := 2, maxLocals := 1, code := jdk_39_method_1_code, exceptionTable := #[], attributes := #[] }
def k7m0 : Method := { name := "<init>", desc := "()V", sig := { parameters := [], returnType := none }, accessFlags := 4, code := some k7c0 }
/-- java/util/AbstractList -/
def k7 : Class := { plain "java/util/AbstractList" (some 4) with
  accessFlags := 1057
  interfaces := #[6]
  cf := some (fileOf pool7 8 #[.nestMembers #[93, 98, 208, 210, 82, 77]] #[{ accessFlags := 4, nameIndex := 5, descriptorIndex := 6, attributes := #[] }] 1057 2 #[133] #[{ accessFlags := 132, nameIndex := 11, descriptorIndex := 12, attributes := #[] }])
  fields := #[{ name := "modCount", type := .int, accessFlags := 132, slot := 0, constantValue := 0 }]
  methods := #[k7m0]
  instanceTypes := #[.int]
  staticTypes := #[]
  resolved := Array.replicate 218 none
  statics := none }

def pool8 : Array CpInfo := pool [(1, .class_ 2), (0, u "java/util/RandomAccess"), (0, .class_ 4), (0, u "java/lang/Object")] 2

/-- java/util/RandomAccess -/
def k8 : Class := { plain "java/util/RandomAccess" (some 0) with
  accessFlags := 1537
  interfaces := #[]
  cf := some (fileOf pool8 1 #[] #[] 1537 3 #[] #[])
  fields := #[]
  methods := #[]
  instanceTypes := #[]
  staticTypes := #[]
  resolved := Array.replicate 7 none
  statics := none }

def pool9 : Array CpInfo := pool [(1, .class_ 2), (0, u "java/lang/Cloneable"), (0, .class_ 4), (0, u "java/lang/Object")] 2

/-- java/lang/Cloneable -/
def k9 : Class := { plain "java/lang/Cloneable" (some 0) with
  accessFlags := 1537
  interfaces := #[]
  cf := some (fileOf pool9 1 #[] #[] 1537 3 #[] #[])
  fields := #[]
  methods := #[]
  instanceTypes := #[]
  staticTypes := #[]
  resolved := Array.replicate 7 none
  statics := none }

def pool10 : Array CpInfo := pool [(1, .class_ 2), (0, u "java/io/Serializable"), (0, .class_ 4), (0, u "java/lang/Object")] 2

/-- java/io/Serializable -/
def k10 : Class := { plain "java/io/Serializable" (some 0) with
  accessFlags := 1537
  interfaces := #[]
  cf := some (fileOf pool10 1 #[] #[] 1537 3 #[] #[])
  fields := #[]
  methods := #[]
  instanceTypes := #[]
  staticTypes := #[]
  resolved := Array.replicate 7 none
  statics := none }

def pool11 : Array CpInfo := pool [(1, .methodref 2 3), (0, .class_ 4), (0, .nameAndType 5 6), (0, u "java/util/AbstractList"), (0, u "<init>"), (0, u "()V"), (0, .class_ 8), (0, u "java/lang/Object"), (0, .fieldref 10 11), (0, .class_ 12), (0, .nameAndType 13 14), (0, u "java/util/ArrayList"), (0, u "elementData"), (0, u "[Ljava/lang/Object;"), (2, u "EMPTY_ELEMENTDATA"), (21, .fieldref 10 40), (0, .nameAndType 41 14), (0, u "DEFAULTCAPACITY_EMPTY_ELEMENTDATA"), (5, u "()[Ljava/lang/Object;"), (0, .fieldref 10 49), (0, .nameAndType 50 51), (0, u "size"), (0, u "I"), (11, .fieldref 10 64), (0, .nameAndType 65 51), (0, u "modCount"), (3, .methodref 10 70), (0, .nameAndType 71 72), (0, u "grow"), (0, u "(I)[Ljava/lang/Object;"), (6, .methodref 80 81), (0, .class_ 82), (0, .nameAndType 83 84), (0, u "java/lang/Math"), (0, u "max"), (0, u "(II)I"), (11, u "(Ljava/lang/Object;)Z"), (21, .methodref 119 120), (0, .class_ 121), (0, .nameAndType 122 84), (0, u "java/util/Objects"), (0, u "checkIndex"), (0, .methodref 10 124), (0, .nameAndType 13 125), (0, u "(I)Ljava/lang/Object;"), (3, .methodref 10 130), (0, .nameAndType 71 47), (0, .methodref 10 132), (0, .nameAndType 133 134), (0, u "add"), (0, u "(Ljava/lang/Object;[Ljava/lang/Object;I)V"), (13, .class_ 149), (0, u "java/util/List"), (36, u "()I"), (75, .class_ 263), (0, u "java/util/ArrayList$ListItr"), (3, .class_ 268), (0, u "java/util/ArrayList$Itr"), (7, .class_ 277), (0, u "java/util/ArrayList$SubList"), (12, .class_ 291), (0, u "java/util/ArrayList$ArrayListSpliterator"), (37, .class_ 330), (0, u "java/util/RandomAccess"), (0, .class_ 332), (0, u "java/lang/Cloneable"), (0, .class_ 334), (0, u "java/io/Serializable"), (0, u "serialVersionUID"), (0, u "J"), (3, u "DEFAULT_CAPACITY"), (40, u "get"), (118, .class_ 501), (0, u "java/util/ArrayList$SubList$2"), (0, .class_ 503), (0, u "java/util/ArrayList$SubList$1")] 5

def k11c0 : Code := { maxStack := 2, maxLocals := 1, code := jdk_38_method_2_code, exceptionTable := #[], attributes := #[] }
def k11m0 : Method := { name := "<init>", desc := "()V", sig := { parameters := [], returnType := none }, accessFlags := 1, code := some k11c0 }
def k11c1 : Code := { maxStack := 4, maxLocals := 4, code := jdk_38_method_6_code, exceptionTable := #[], attributes := #[] }
def k11m1 : Method := { name := "grow", desc := "(I)[Ljava/lang/Object;", sig := { parameters := [.int], returnType := some (.array (.object "java/lang/Object")) }, accessFlags := 2, code := some k11c1 }
def k11c2 : Code := { maxStack := 3, maxLocals := 1, code := jdk_38_method_7_code, exceptionTable := #[], attributes := #[] }
def k11m2 : Method := { name := "grow", desc := "()[Ljava/lang/Object;", sig := { parameters := [], returnType := some (.array (.object "java/lang/Object")) }, accessFlags := 2, code := some k11c2 }
def k11c3 : Code := { maxStack := 1, maxLocals := 1, code := jdk_38_method_8_code, exceptionTable := #[], attributes := #[] }
def k11m3 : Method := { name := "size", desc := "()I", sig := { parameters := [], returnType := some .int }, accessFlags := 1, code := some k11c3 }
def k11c4 : Code := { maxStack := 2, maxLocals := 2, code := jdk_38_method_18_code, exceptionTable := #[], attributes := #[] }
def k11m4 : Method := { name := "elementData", desc := "(I)Ljava/lang/Object;", sig := { parameters := [.int], returnType := some (.object "java/lang/Object") }, accessFlags := 0, code := some k11c4 }
def k11c5 : Code := { maxStack := 2, maxLocals := 2, code := jdk_38_method_20_code, exceptionTable := #[], attributes := #[] }
def k11m5 : Method := { name := "get", desc := "(I)Ljava/lang/Object;", sig := { parameters := [.int], returnType := some (.object "java/lang/Object") }, accessFlags := 1, code := some k11c5 }
def k11c6 : Code := { maxStack := 3, maxLocals := 4, code := jdk_38_method_24_code, exceptionTable := #[], attributes := #[] }
def k11m6 : Method := { name := "add", desc := "(Ljava/lang/Object;[Ljava/lang/Object;I)V", sig := { parameters := [(.object "java/lang/Object"), (.array (.object "java/lang/Object")), .int], returnType := none }, accessFlags := 2, code := some k11c6 }
def k11c7 : Code := { maxStack := 4, maxLocals := 2, code := jdk_38_method_25_code, exceptionTable := #[], attributes := #[] }
def k11m7 : Method := { name := "add", desc := "(Ljava/lang/Object;)Z", sig := { parameters := [(.object "java/lang/Object")], returnType := some .boolean }, accessFlags := 1, code := some k11c7 }
/-- java/util/ArrayList -/
def k11 : Class := { plain "java/util/ArrayList" (some 7) with
  accessFlags := 33
  interfaces := #[6, 8, 9, 10]
  cf := some (fileOf pool11 10 #[.nestMembers #[290, 276, 500, 502, 262, 267]] #[{ accessFlags := 1, nameIndex := 5, descriptorIndex := 6, attributes := #[] }, { accessFlags := 2, nameIndex := 71, descriptorIndex := 72, attributes := #[] }, { accessFlags := 2, nameIndex := 71, descriptorIndex := 47, attributes := #[] }, { accessFlags := 1, nameIndex := 50, descriptorIndex := 186, attributes := #[] }, { accessFlags := 0, nameIndex := 13, descriptorIndex := 125, attributes := #[] }, { accessFlags := 1, nameIndex := 381, descriptorIndex := 125, attributes := #[] }, { accessFlags := 2, nameIndex := 133, descriptorIndex := 134, attributes := #[] }, { accessFlags := 1, nameIndex := 133, descriptorIndex := 96, attributes := #[] }] 33 2 #[148, 329, 331, 333] #[{ accessFlags := 26, nameIndex := 335, descriptorIndex := 336, attributes := #[] }, { accessFlags := 26, nameIndex := 340, descriptorIndex := 51, attributes := #[] }, { accessFlags := 26, nameIndex := 17, descriptorIndex := 14, attributes := #[] }, { accessFlags := 26, nameIndex := 41, descriptorIndex := 14, attributes := #[] }, { accessFlags := 128, nameIndex := 13, descriptorIndex := 14, attributes := #[] }, { accessFlags := 2, nameIndex := 50, descriptorIndex := 51, attributes := #[] }])
  fields := #[{ name := "serialVersionUID", type := .long, accessFlags := 26, slot := 0, constantValue := 0 }, { name := "DEFAULT_CAPACITY", type := .int, accessFlags := 26, slot := 1, constantValue := 0 }, { name := "EMPTY_ELEMENTDATA", type := (.array (.object "java/lang/Object")), accessFlags := 26, slot := 2, constantValue := 0 }, { name := "DEFAULTCAPACITY_EMPTY_ELEMENTDATA", type := (.array (.object "java/lang/Object")), accessFlags := 26, slot := 3, constantValue := 0 }, { name := "elementData", type := (.array (.object "java/lang/Object")), accessFlags := 128, slot := 1, constantValue := 0 }, { name := "size", type := .int, accessFlags := 2, slot := 2, constantValue := 0 }]
  methods := #[k11m0, k11m1, k11m2, k11m3, k11m4, k11m5, k11m6, k11m7]
  instanceTypes := #[.int, (.array (.object "java/lang/Object")), .int]
  staticTypes := #[.long, .int, (.array (.object "java/lang/Object")), (.array (.object "java/lang/Object"))]
  resolved := Array.replicate 509 none
  statics := some 0 }

def pool12 : Array CpInfo := pool [(1, .class_ 2), (0, u "java/lang/Math"), (1, .class_ 6), (1, u "java/lang/Object"), (0, u "<init>"), (0, u "()V"), (89, .class_ 100), (1, u "java/lang/Math$RandomNumberGeneratorHolder"), (71, u "negativeZeroFloatBits"), (0, u "J"), (2, u "negativeZeroDoubleBits"), (21, u "max"), (46, u "$assertionsDisabled"), (0, u "Z"), (88, u "(II)I"), (2, u "twoToTheDoubleScaleDown"), (0, u "D"), (4, u "twoToTheDoubleScaleUp"), (9, u "E"), (3, u "PI"), (2, u "TAU"), (2, u "DEGREES_TO_RADIANS"), (0, u "RADIANS_TO_DEGREES")] 94

def k12m0 : Method := { name := "<init>", desc := "()V", sig := { parameters := [], returnType := none }, accessFlags := 2, code := none }
def k12c1 : Code := { maxStack := 2, maxLocals := 2, code := jdk_29_method_65_code, exceptionTable := #[], attributes := #[] }
def k12m1 : Method := { name := "max", desc := "(II)I", sig := { parameters := [.int, .int], returnType := some .int }, accessFlags := 9, code := some k12c1 }
/-- java/lang/Math -/
def k12 : Class := { plain "java/lang/Math" (some 0) with
  accessFlags := 49
  interfaces := #[]
  cf := some (fileOf pool12 1 #[.nestMembers #[98]] #[{ accessFlags := 2, nameIndex := 7, descriptorIndex := 8, attributes := #[] }, { accessFlags := 9, nameIndex := 198, descriptorIndex := 335, attributes := #[] }] 49 4 #[] #[{ accessFlags := 25, nameIndex := 354, descriptorIndex := 339, attributes := #[] }, { accessFlags := 25, nameIndex := 358, descriptorIndex := 339, attributes := #[] }, { accessFlags := 25, nameIndex := 361, descriptorIndex := 339, attributes := #[] }, { accessFlags := 26, nameIndex := 364, descriptorIndex := 339, attributes := #[] }, { accessFlags := 26, nameIndex := 365, descriptorIndex := 339, attributes := #[] }, { accessFlags := 26, nameIndex := 172, descriptorIndex := 173, attributes := #[] }, { accessFlags := 26, nameIndex := 176, descriptorIndex := 173, attributes := #[] }, { accessFlags := 8, nameIndex := 344, descriptorIndex := 339, attributes := #[] }, { accessFlags := 8, nameIndex := 338, descriptorIndex := 339, attributes := #[] }, { accessFlags := 4120, nameIndex := 245, descriptorIndex := 246, attributes := #[] }])
  fields := #[{ name := "E", type := .double, accessFlags := 25, slot := 0, constantValue := 0 }, { name := "PI", type := .double, accessFlags := 25, slot := 1, constantValue := 0 }, { name := "TAU", type := .double, accessFlags := 25, slot := 2, constantValue := 0 }, { name := "DEGREES_TO_RADIANS", type := .double, accessFlags := 26, slot := 3, constantValue := 0 }, { name := "RADIANS_TO_DEGREES", type := .double, accessFlags := 26, slot := 4, constantValue := 0 }, { name := "negativeZeroFloatBits", type := .long, accessFlags := 26, slot := 5, constantValue := 0 }, { name := "negativeZeroDoubleBits", type := .long, accessFlags := 26, slot := 6, constantValue := 0 }, { name := "twoToTheDoubleScaleUp", type := .double, accessFlags := 8, slot := 7, constantValue := 0 }, { name := "twoToTheDoubleScaleDown", type := .double, accessFlags := 8, slot := 8, constantValue := 0 }, { name := "$assertionsDisabled", type := .boolean, accessFlags := 4120, slot := 9, constantValue := 0 }]
  methods := #[k12m0, k12m1]
  instanceTypes := #[]
  staticTypes := #[.double, .double, .double, .double, .double, .long, .long, .double, .double, .boolean]
  resolved := Array.replicate 460 none
  statics := none }

def pool13 : Array CpInfo := pool [(2, .class_ 4), (1, u "com/example/percurso/percurso/suite/PrefixNodes"), (5, .class_ 11), (0, u "java/lang/Object")] 11

/-- com/example/percurso/percurso/suite/PrefixNodes -/
def k13 : Class := { plain "com/example/percurso/percurso/suite/PrefixNodes" (some 0) with
  accessFlags := 1537
  interfaces := #[]
  cf := some (fileOf pool13 2 #[] #[] 1537 10 #[] #[])
  fields := #[]
  methods := #[]
  instanceTypes := #[]
  staticTypes := #[]
  resolved := Array.replicate 23 none
  statics := none }

def pool14 : Array CpInfo := pool [(1, .methodref 2 3), (0, .class_ 4), (0, .nameAndType 5 6), (0, u "java/lang/Object"), (0, u "<init>"), (0, u "()V"), (0, .methodref 8 9), (0, .class_ 10), (0, .nameAndType 11 12), (0, u "com/example/percurso/percurso/suite/Suite"), (0, u "inputCount"), (0, u "()J"), (2, .long 2147483639), (10, .fieldref 27 28), (0, .class_ 29), (0, .nameAndType 30 31), (0, u "com/example/percurso/percurso/suite/PrefixTree"), (0, u "parents"), (0, u "[I"), (0, .fieldref 27 33), (0, .nameAndType 34 31), (0, u "inputs"), (0, .fieldref 27 36), (0, .nameAndType 37 31), (0, u "depths"), (0, .fieldref 27 39), (0, .nameAndType 40 31), (0, u "firstChildren"), (0, .fieldref 27 42), (0, .nameAndType 43 31), (0, u "nextSiblings"), (0, .methodref 8 45), (0, .nameAndType 46 47), (0, u "testCount"), (0, u "()I"), (0, .methodref 8 49), (0, .nameAndType 50 51), (0, u "length"), (0, u "(I)I"), (0, .methodref 8 53), (0, .nameAndType 54 55), (0, u "input"), (0, u "(II)I"), (0, .methodref 27 57), (0, .nameAndType 58 55), (0, u "child"), (0, .methodref 27 60), (0, .nameAndType 61 62), (0, u "link"), (0, u "(IIII)V"), (0, .fieldref 27 64), (0, .nameAndType 65 66), (0, u "size"), (0, u "I"), (4, .class_ 72), (0, u "com/example/percurso/percurso/suite/PrefixNodes"), (0, u "NONE"), (2, u "(Lcom/example/percurso/percurso/suite/Suite;)V")] 27

def k14c0 : Code := { maxStack := 6, maxLocals := 16, code := prog_191_method_1_code, exceptionTable := #[], attributes := #[] }
def k14m0 : Method := { name := "<init>", desc := "(Lcom/example/percurso/percurso/suite/Suite;)V", sig := { parameters := [(.object "com/example/percurso/percurso/suite/Suite")], returnType := none }, accessFlags := 1, code := some k14c0 }
def k14c1 : Code := { maxStack := 3, maxLocals := 7, code := prog_191_method_2_code, exceptionTable := #[], attributes := #[] }
def k14m1 : Method := { name := "link", desc := "(IIII)V", sig := { parameters := [.int, .int, .int, .int], returnType := none }, accessFlags := 2, code := some k14c1 }
def k14c2 : Code := { maxStack := 2, maxLocals := 4, code := prog_191_method_9_code, exceptionTable := #[], attributes := #[] }
def k14m2 : Method := { name := "child", desc := "(II)I", sig := { parameters := [.int, .int], returnType := some .int }, accessFlags := 1, code := some k14c2 }
/-- com/example/percurso/percurso/suite/PrefixTree -/
def k14 : Class := { plain "com/example/percurso/percurso/suite/PrefixTree" (some 0) with
  accessFlags := 49
  interfaces := #[13]
  cf := some (fileOf pool14 27 #[] #[{ accessFlags := 1, nameIndex := 5, descriptorIndex := 76, attributes := #[] }, { accessFlags := 2, nameIndex := 61, descriptorIndex := 62, attributes := #[] }, { accessFlags := 1, nameIndex := 58, descriptorIndex := 55, attributes := #[] }] 49 2 #[71] #[{ accessFlags := 25, nameIndex := 73, descriptorIndex := 66, attributes := #[] }, { accessFlags := 18, nameIndex := 65, descriptorIndex := 66, attributes := #[] }, { accessFlags := 18, nameIndex := 30, descriptorIndex := 31, attributes := #[] }, { accessFlags := 18, nameIndex := 34, descriptorIndex := 31, attributes := #[] }, { accessFlags := 18, nameIndex := 37, descriptorIndex := 31, attributes := #[] }, { accessFlags := 18, nameIndex := 40, descriptorIndex := 31, attributes := #[] }, { accessFlags := 18, nameIndex := 43, descriptorIndex := 31, attributes := #[] }])
  fields := #[{ name := "NONE", type := .int, accessFlags := 25, slot := 0, constantValue := 0 }, { name := "size", type := .int, accessFlags := 18, slot := 0, constantValue := 0 }, { name := "parents", type := (.array .int), accessFlags := 18, slot := 1, constantValue := 0 }, { name := "inputs", type := (.array .int), accessFlags := 18, slot := 2, constantValue := 0 }, { name := "depths", type := (.array .int), accessFlags := 18, slot := 3, constantValue := 0 }, { name := "firstChildren", type := (.array .int), accessFlags := 18, slot := 4, constantValue := 0 }, { name := "nextSiblings", type := (.array .int), accessFlags := 18, slot := 5, constantValue := 0 }]
  methods := #[k14m0, k14m1, k14m2]
  instanceTypes := #[.int, (.array .int), (.array .int), (.array .int), (.array .int), (.array .int)]
  staticTypes := #[.int]
  resolved := Array.replicate 104 none
  statics := none }

def pool15 : Array CpInfo := pool [(1, .methodref 2 3), (0, .class_ 4), (0, .nameAndType 5 6), (0, u "java/lang/Object"), (0, u "<init>"), (0, u "()V"), (0, .interfaceMethodref 8 9), (0, .class_ 10), (0, .nameAndType 11 12), (0, u "java/util/List"), (0, u "size"), (0, u "()I"), (0, .class_ 14), (0, u "[I"), (0, .fieldref 16 17), (0, .class_ 18), (0, .nameAndType 19 20), (0, u "com/example/percurso/percurso/suite/Suite"), (0, u "tests"), (0, u "[[I"), (0, .interfaceMethodref 8 22), (0, .nameAndType 23 24), (0, u "get"), (0, u "(I)Ljava/lang/Object;"), (0, .methodref 13 26), (0, .nameAndType 27 28), (0, u "clone"), (0, u "()Ljava/lang/Object;"), (26, u "(Ljava/util/List;)V"), (2, u "testCount"), (2, u "inputCount"), (0, u "()J"), (25, u "length"), (0, u "(I)I"), (2, u "input"), (0, u "(II)I")] 31

def k15c0 : Code := { maxStack := 4, maxLocals := 3, code := prog_193_method_1_code, exceptionTable := #[], attributes := #[] }
def k15m0 : Method := { name := "<init>", desc := "(Ljava/util/List;)V", sig := { parameters := [(.object "java/util/List")], returnType := none }, accessFlags := 1, code := some k15c0 }
def k15c1 : Code := { maxStack := 1, maxLocals := 1, code := prog_193_method_3_code, exceptionTable := #[], attributes := #[] }
def k15m1 : Method := { name := "testCount", desc := "()I", sig := { parameters := [], returnType := some .int }, accessFlags := 1, code := some k15c1 }
def k15c2 : Code := { maxStack := 2, maxLocals := 2, code := prog_193_method_4_code, exceptionTable := #[], attributes := #[] }
def k15m2 : Method := { name := "length", desc := "(I)I", sig := { parameters := [.int], returnType := some .int }, accessFlags := 1, code := some k15c2 }
def k15c3 : Code := { maxStack := 2, maxLocals := 3, code := prog_193_method_6_code, exceptionTable := #[], attributes := #[] }
def k15m3 : Method := { name := "input", desc := "(II)I", sig := { parameters := [.int, .int], returnType := some .int }, accessFlags := 1, code := some k15c3 }
def k15c4 : Code := { maxStack := 4, maxLocals := 7, code := prog_193_method_7_code, exceptionTable := #[], attributes := #[] }
def k15m4 : Method := { name := "inputCount", desc := "()J", sig := { parameters := [], returnType := some .long }, accessFlags := 1, code := some k15c4 }
/-- com/example/percurso/percurso/suite/Suite -/
def k15 : Class := { plain "com/example/percurso/percurso/suite/Suite" (some 0) with
  accessFlags := 49
  interfaces := #[]
  cf := some (fileOf pool15 16 #[] #[{ accessFlags := 1, nameIndex := 5, descriptorIndex := 55, attributes := #[] }, { accessFlags := 1, nameIndex := 58, descriptorIndex := 12, attributes := #[] }, { accessFlags := 1, nameIndex := 88, descriptorIndex := 89, attributes := #[] }, { accessFlags := 1, nameIndex := 92, descriptorIndex := 93, attributes := #[] }, { accessFlags := 1, nameIndex := 61, descriptorIndex := 62, attributes := #[] }] 49 2 #[] #[{ accessFlags := 18, nameIndex := 19, descriptorIndex := 20, attributes := #[] }])
  fields := #[{ name := "tests", type := (.array (.array .int)), accessFlags := 18, slot := 0, constantValue := 0 }]
  methods := #[k15m0, k15m1, k15m2, k15m3, k15m4]
  instanceTypes := #[(.array (.array .int))]
  staticTypes := #[]
  resolved := Array.replicate 125 none
  statics := none }

def pool16 : Array CpInfo := pool [(2, .class_ 4), (1, u "java/lang/Object"), (0, u "<init>"), (0, u "()V"), (35, .class_ 44), (1, u "java/util/Objects"), (60, .methodref 106 107), (0, .class_ 108), (0, .nameAndType 109 110), (0, u "jdk/internal/util/Preconditions"), (0, u "checkIndex"), (0, u "(IILjava/util/function/BiFunction;)I"), (60, u "(II)I")] 12

def k16m0 : Method := { name := "<init>", desc := "()V", sig := { parameters := [], returnType := none }, accessFlags := 2, code := none }
def k16c1 : Code := { maxStack := 3, maxLocals := 2, code := jdk_31_method_17_code, exceptionTable := #[], attributes := #[] }
def k16m1 : Method := { name := "checkIndex", desc := "(II)I", sig := { parameters := [.int, .int], returnType := some .int }, accessFlags := 9, code := some k16c1 }
/-- java/util/Objects -/
def k16 : Class := { plain "java/util/Objects" (some 0) with
  accessFlags := 49
  interfaces := #[]
  cf := some (fileOf pool16 42 #[] #[{ accessFlags := 2, nameIndex := 5, descriptorIndex := 6, attributes := #[] }, { accessFlags := 9, nameIndex := 109, descriptorIndex := 171, attributes := #[] }] 49 2 #[] #[])
  fields := #[]
  methods := #[k16m0, k16m1]
  instanceTypes := #[]
  staticTypes := #[]
  resolved := Array.replicate 184 none
  statics := none }

def pool17 : Array CpInfo := pool [(2, .class_ 4), (1, u "java/lang/Object"), (0, u "<init>"), (0, u "()V"), (17, .class_ 26), (1, u "jdk/internal/util/Preconditions"), (6, u "checkIndex"), (21, .class_ 56), (0, u "jdk/internal/util/Preconditions$4"), (57, .class_ 115), (0, u "jdk/internal/util/Preconditions$1"), (7, u "SIOOBE_FORMATTER"), (0, u "Ljava/util/function/BiFunction;"), (0, .class_ 126), (0, u "jdk/internal/util/Preconditions$2"), (3, u "AIOOBE_FORMATTER"), (0, .class_ 132), (0, u "jdk/internal/util/Preconditions$3"), (3, u "IOOBE_FORMATTER"), (41, u "(IILjava/util/function/BiFunction;)I")] 15

def k17m0 : Method := { name := "<init>", desc := "()V", sig := { parameters := [], returnType := none }, accessFlags := 1, code := none }
def k17c1 : Code := { maxStack := 3, maxLocals := 3, code := jdk_41_method_11_code, exceptionTable := #[], attributes := #[] }
def k17m1 : Method := { name := "checkIndex", desc := "(IILjava/util/function/BiFunction;)I", sig := { parameters := [.int, .int, (.object "java/util/function/BiFunction")], returnType := some .int }, accessFlags := 9, code := some k17c1 }
/-- jdk/internal/util/Preconditions -/
def k17 : Class := { plain "jdk/internal/util/Preconditions" (some 0) with
  accessFlags := 33
  interfaces := #[]
  cf := some (fileOf pool17 24 #[.nestMembers #[55, 131, 125, 114]] #[{ accessFlags := 1, nameIndex := 5, descriptorIndex := 6, attributes := #[] }, { accessFlags := 9, nameIndex := 33, descriptorIndex := 178, attributes := #[] }] 33 2 #[] #[{ accessFlags := 25, nameIndex := 123, descriptorIndex := 124, attributes := #[] }, { accessFlags := 25, nameIndex := 130, descriptorIndex := 124, attributes := #[] }, { accessFlags := 25, nameIndex := 136, descriptorIndex := 124, attributes := #[] }])
  fields := #[{ name := "SIOOBE_FORMATTER", type := (.object "java/util/function/BiFunction"), accessFlags := 25, slot := 0, constantValue := 0 }, { name := "AIOOBE_FORMATTER", type := (.object "java/util/function/BiFunction"), accessFlags := 25, slot := 1, constantValue := 0 }, { name := "IOOBE_FORMATTER", type := (.object "java/util/function/BiFunction"), accessFlags := 25, slot := 2, constantValue := 0 }]
  methods := #[k17m0, k17m1]
  instanceTypes := #[]
  staticTypes := #[(.object "java/util/function/BiFunction"), (.object "java/util/function/BiFunction"), (.object "java/util/function/BiFunction")]
  resolved := Array.replicate 194 none
  statics := none }

/-- the primitive byte -/
def k18 : Class := { plain "byte" none with kind := .primitive 'B', accessFlags := 0x411 }
/-- [B -/
def k19 : Class := { plain "[B" (some 0) with kind := .array 18 .byte, interfaces := #[9, 10], accessFlags := 1041 }

/-- the primitive int -/
def k20 : Class := { plain "int" none with kind := .primitive 'I', accessFlags := 0x411 }
/-- [I -/
def k21 : Class := { plain "[I" (some 0) with kind := .array 20 .int, interfaces := #[9, 10], accessFlags := 1041 }

/-- [Ljava/lang/Object; -/
def k22 : Class := { plain "[Ljava/lang/Object;" (some 0) with kind := .array 0 (.object "java/lang/Object"), interfaces := #[9, 10], accessFlags := 1041 }

/-- [[I -/
def k23 : Class := { plain "[[I" (some 0) with kind := .array 21 (.array .int), interfaces := #[9, 10], accessFlags := 1041 }
def heap : Heap := #[{ cls := 11, slots := #[.long 0, .int 0, .ref 1, .ref 2], vm := .statics 11 },
  { cls := 22, slots := #[], vm := .none },
  { cls := 22, slots := #[], vm := .none }]
def classes : Array Class := #[k0, k1, k2, k3, k4, k5, k6, k7, k8, k9, k10, k11, k12, k13, k14, k15, k16, k17, k18, k19, k20, k21, k22, k23]
def interned : List (Array UInt16 × Addr) := []
def slotsUsed : Nat := 4
def theMethod : MethodId := ⟨1, 1⟩
def args0 : Array Value := #[.int 2, .int 1, .int 3, .int 4, .int 5, .int 9]
def aboutOver (below : List Frame) : State where
  vm := { classes := classes, interned := interned.toArray }
  heap := heap
  slotsUsed := slotsUsed
  threads := #[{ frames := .invoking theMethod args0 :: below }]
def below0 : List Frame := [.native { method := ⟨0, 0⟩, args := #[] }]
def about1 : State := aboutOver below0
def p0 : Program := .bare "" "" ""
def e0 : Env := launch0.env 0 0 0
theorem w_frames : about1.frames = Frame.invoking theMethod args0 :: below0 := rfl
set_option maxRecDepth 65536 in
theorem w_args : argsFit about1.vm theMethod args0 = true := by decide +kernel
set_option maxRecDepth 65536 in
theorem w_heap : heapFits about1 = true := by decide +kernel
set_option maxRecDepth 65536 in
theorem w_runnable : about1.curStatus? = some .runnable := by decide +kernel
set_option maxRecDepth 65536 in
theorem w_alone : about1.alone = true := by decide +kernel
set_option maxRecDepth 65536 in
theorem w_named : about1.methodNamed? x = some theMethod := by decide +kernel
set_option maxRecDepth 65536 in
theorem w_hears : about1.hears theMethod below0 = true := by decide +kernel
set_option maxRecDepth 65536 in
theorem w_ripe : about1.ripe theMethod args0 below0 = true := by decide +kernel
theorem w_running : about1.status = .running := rfl
set_option maxRecDepth 65536 in
theorem w_room : about1.hasRoom e0.platform room_1 = true :=
  launch0.hasRoom_least _ room_1 (by decide +kernel) (by decide +kernel) (by decide +kernel) (by decide +kernel) (by decide +kernel) (by decide +kernel)
theorem allAtoms_all (ts : List Jvm.Cond) (a : Array Jvm.Value) (st : Jvm.State) : (allAtoms ts).before a st = ts.all (fun c => c.before a st) := by
  induction ts with
  | nil => rfl
  | cons c t ih =>
    show (Jvm.Cond.and c (allAtoms t)).before a st = _
    rw [Jvm.Cond.before_and, ih, List.all_cons]
def words1 : List Jvm.Cond := Jvm.Cond.code x code maxLocals ret :: tables_1
/-- a 'code' word, met by the world's own term for the bytes: nothing is compared byte by byte -/
theorem code_word {y : MethodName} {bytes : ByteArray} {mx : Nat} {rt : Option FieldType} {a : Array Value} {s : State} {m : MethodId} {meth : Method} {c : Code} (h1 : s.methodNamed? y = some m) (h2 : s.vm.method? m = some meth) (h3 : meth.code = some c) (h4 : c.code = bytes)
    (h5 : (c.maxLocals == mx && c.exceptionTable.isEmpty && decide (c.maxStack ≤ mostOperands) && decide (meth.sig.returnType = rt) && !meth.locks && decide (parseMethodDescriptor y.desc = some meth.sig)) = true) : (Jvm.Cond.code y bytes mx rt).before a s = true := by
  simp only [Bool.and_eq_true, beq_iff_eq, Bool.not_eq_true', decide_eq_true_eq] at h5
  obtain ⟨⟨⟨⟨⟨g1, g2⟩, g3⟩, g4⟩, g5⟩, g6⟩ := h5
  simp [Cond.before, Cond.holds, Cond.value, h1, h2, h3, h4, g1, g2, g3, g4, g5, g6]
def isCode : Jvm.Cond → Bool
  | .code _ _ _ _ => true
  | _ => false
theorem all_split {L : List Jvm.Cond} {P : Jvm.Cond → Bool} (h1 : L.all (fun c => isCode c || P c) = true) (h2 : ∀ c ∈ L.filter isCode, P c = true) : L.all P = true := by
  refine List.all_eq_true.mpr fun c hc => ?_
  have h := List.all_eq_true.mp h1 c hc
  rcases Bool.eq_false_or_eq_true (isCode c) with hi | hi
  · exact h2 c (List.mem_filter.mpr ⟨hc, hi⟩)
  · simpa [hi] using h
set_option maxRecDepth 65536 in
theorem w_c0 : (Jvm.Cond.code x code maxLocals ret).before args0 about1 = true := code_word (m := ⟨1, 1⟩) (meth := k1m1) (c := k1c1) (by decide +kernel) rfl rfl rfl (by decide +kernel)
set_option maxRecDepth 65536 in
theorem w_c1 : (Jvm.Cond.code ({ cls := "java/util/ArrayList", name := "<init>", desc := "()V" } : Jvm.MethodName) jdk_38_method_2_code (1 : Nat) (Option.none : Option Jvm.ClassFile.FieldType)).before args0 about1 = true := code_word (m := ⟨11, 0⟩) (meth := k11m0) (c := k11c0) (by decide +kernel) rfl rfl rfl (by decide +kernel)
set_option maxRecDepth 65536 in
theorem w_c2 : (Jvm.Cond.code ({ cls := "java/util/AbstractList", name := "<init>", desc := "()V" } : Jvm.MethodName) jdk_39_method_1_code (1 : Nat) (Option.none : Option Jvm.ClassFile.FieldType)).before args0 about1 = true := code_word (m := ⟨7, 0⟩) (meth := k7m0) (c := k7c0) (by decide +kernel) rfl rfl rfl (by decide +kernel)
set_option maxRecDepth 65536 in
theorem w_c3 : (Jvm.Cond.code ({ cls := "java/util/AbstractCollection", name := "<init>", desc := "()V" } : Jvm.MethodName) jdk_22_method_1_code (1 : Nat) (Option.none : Option Jvm.ClassFile.FieldType)).before args0 about1 = true := code_word (m := ⟨4, 0⟩) (meth := k4m0) (c := k4c0) (by decide +kernel) rfl rfl rfl (by decide +kernel)
set_option maxRecDepth 65536 in
theorem w_c4 : (Jvm.Cond.code ({ cls := "java/lang/Object", name := "<init>", desc := "()V" } : Jvm.MethodName) object_method_1_code (1 : Nat) (Option.none : Option Jvm.ClassFile.FieldType)).before args0 about1 = true := code_word (m := ⟨0, 0⟩) (meth := k0m0) (c := k0c0) (by decide +kernel) rfl rfl rfl (by decide +kernel)
set_option maxRecDepth 65536 in
theorem w_c5 : (Jvm.Cond.code ({ cls := "java/util/ArrayList", name := "add", desc := "(Ljava/lang/Object;)Z" } : Jvm.MethodName) jdk_38_method_25_code (2 : Nat) (Option.some Jvm.ClassFile.FieldType.boolean)).before args0 about1 = true := code_word (m := ⟨11, 7⟩) (meth := k11m7) (c := k11c7) (by decide +kernel) rfl rfl rfl (by decide +kernel)
set_option maxRecDepth 65536 in
theorem w_c6 : (Jvm.Cond.code ({ cls := "java/util/ArrayList", name := "add", desc := "(Ljava/lang/Object;[Ljava/lang/Object;I)V" } : Jvm.MethodName) jdk_38_method_24_code (4 : Nat) (Option.none : Option Jvm.ClassFile.FieldType)).before args0 about1 = true := code_word (m := ⟨11, 6⟩) (meth := k11m6) (c := k11c6) (by decide +kernel) rfl rfl rfl (by decide +kernel)
set_option maxRecDepth 65536 in
theorem w_c7 : (Jvm.Cond.code ({ cls := "java/util/ArrayList", name := "grow", desc := "()[Ljava/lang/Object;" } : Jvm.MethodName) jdk_38_method_7_code (1 : Nat) (Option.some (Jvm.ClassFile.FieldType.array (Jvm.ClassFile.FieldType.object "java/lang/Object")))).before args0 about1 = true := code_word (m := ⟨11, 2⟩) (meth := k11m2) (c := k11c2) (by decide +kernel) rfl rfl rfl (by decide +kernel)
set_option maxRecDepth 65536 in
theorem w_c8 : (Jvm.Cond.code ({ cls := "java/util/ArrayList", name := "grow", desc := "(I)[Ljava/lang/Object;" } : Jvm.MethodName) jdk_38_method_6_code (4 : Nat) (Option.some (Jvm.ClassFile.FieldType.array (Jvm.ClassFile.FieldType.object "java/lang/Object")))).before args0 about1 = true := code_word (m := ⟨11, 1⟩) (meth := k11m1) (c := k11c1) (by decide +kernel) rfl rfl rfl (by decide +kernel)
set_option maxRecDepth 65536 in
theorem w_c9 : (Jvm.Cond.code ({ cls := "java/lang/Math", name := "max", desc := "(II)I" } : Jvm.MethodName) jdk_29_method_65_code (2 : Nat) (Option.some Jvm.ClassFile.FieldType.int)).before args0 about1 = true := code_word (m := ⟨12, 1⟩) (meth := k12m1) (c := k12c1) (by decide +kernel) rfl rfl rfl (by decide +kernel)
set_option maxRecDepth 65536 in
theorem w_c10 : (Jvm.Cond.code ({ cls := "com/example/percurso/percurso/suite/Suite", name := "<init>", desc := "(Ljava/util/List;)V" } : Jvm.MethodName) prog_193_method_1_code (3 : Nat) (Option.none : Option Jvm.ClassFile.FieldType)).before args0 about1 = true := code_word (m := ⟨15, 0⟩) (meth := k15m0) (c := k15c0) (by decide +kernel) rfl rfl rfl (by decide +kernel)
set_option maxRecDepth 65536 in
theorem w_c11 : (Jvm.Cond.code ({ cls := "java/util/ArrayList", name := "size", desc := "()I" } : Jvm.MethodName) jdk_38_method_8_code (1 : Nat) (Option.some Jvm.ClassFile.FieldType.int)).before args0 about1 = true := code_word (m := ⟨11, 3⟩) (meth := k11m3) (c := k11c3) (by decide +kernel) rfl rfl rfl (by decide +kernel)
set_option maxRecDepth 65536 in
theorem w_c12 : (Jvm.Cond.code ({ cls := "java/util/ArrayList", name := "get", desc := "(I)Ljava/lang/Object;" } : Jvm.MethodName) jdk_38_method_20_code (2 : Nat) (Option.some (Jvm.ClassFile.FieldType.object "java/lang/Object"))).before args0 about1 = true := code_word (m := ⟨11, 5⟩) (meth := k11m5) (c := k11c5) (by decide +kernel) rfl rfl rfl (by decide +kernel)
set_option maxRecDepth 65536 in
theorem w_c13 : (Jvm.Cond.code ({ cls := "java/util/Objects", name := "checkIndex", desc := "(II)I" } : Jvm.MethodName) jdk_31_method_17_code (2 : Nat) (Option.some Jvm.ClassFile.FieldType.int)).before args0 about1 = true := code_word (m := ⟨16, 1⟩) (meth := k16m1) (c := k16c1) (by decide +kernel) rfl rfl rfl (by decide +kernel)
set_option maxRecDepth 65536 in
theorem w_c14 : (Jvm.Cond.code ({ cls := "jdk/internal/util/Preconditions", name := "checkIndex", desc := "(IILjava/util/function/BiFunction;)I" } : Jvm.MethodName) jdk_41_method_11_code (3 : Nat) (Option.some Jvm.ClassFile.FieldType.int)).before args0 about1 = true := code_word (m := ⟨17, 1⟩) (meth := k17m1) (c := k17c1) (by decide +kernel) rfl rfl rfl (by decide +kernel)
set_option maxRecDepth 65536 in
theorem w_c15 : (Jvm.Cond.code ({ cls := "java/util/ArrayList", name := "elementData", desc := "(I)Ljava/lang/Object;" } : Jvm.MethodName) jdk_38_method_18_code (2 : Nat) (Option.some (Jvm.ClassFile.FieldType.object "java/lang/Object"))).before args0 about1 = true := code_word (m := ⟨11, 4⟩) (meth := k11m4) (c := k11c4) (by decide +kernel) rfl rfl rfl (by decide +kernel)
set_option maxRecDepth 65536 in
theorem w_c16 : (Jvm.Cond.code ({ cls := "com/example/percurso/percurso/suite/PrefixTree", name := "<init>", desc := "(Lcom/example/percurso/percurso/suite/Suite;)V" } : Jvm.MethodName) prog_191_method_1_code (16 : Nat) (Option.none : Option Jvm.ClassFile.FieldType)).before args0 about1 = true := code_word (m := ⟨14, 0⟩) (meth := k14m0) (c := k14c0) (by decide +kernel) rfl rfl rfl (by decide +kernel)
set_option maxRecDepth 65536 in
theorem w_c17 : (Jvm.Cond.code ({ cls := "com/example/percurso/percurso/suite/Suite", name := "inputCount", desc := "()J" } : Jvm.MethodName) prog_193_method_7_code (7 : Nat) (Option.some Jvm.ClassFile.FieldType.long)).before args0 about1 = true := code_word (m := ⟨15, 4⟩) (meth := k15m4) (c := k15c4) (by decide +kernel) rfl rfl rfl (by decide +kernel)
set_option maxRecDepth 65536 in
theorem w_c18 : (Jvm.Cond.code ({ cls := "com/example/percurso/percurso/suite/Suite", name := "testCount", desc := "()I" } : Jvm.MethodName) prog_193_method_3_code (1 : Nat) (Option.some Jvm.ClassFile.FieldType.int)).before args0 about1 = true := code_word (m := ⟨15, 1⟩) (meth := k15m1) (c := k15c1) (by decide +kernel) rfl rfl rfl (by decide +kernel)
set_option maxRecDepth 65536 in
theorem w_c19 : (Jvm.Cond.code ({ cls := "com/example/percurso/percurso/suite/Suite", name := "length", desc := "(I)I" } : Jvm.MethodName) prog_193_method_4_code (2 : Nat) (Option.some Jvm.ClassFile.FieldType.int)).before args0 about1 = true := code_word (m := ⟨15, 2⟩) (meth := k15m2) (c := k15c2) (by decide +kernel) rfl rfl rfl (by decide +kernel)
set_option maxRecDepth 65536 in
theorem w_c20 : (Jvm.Cond.code ({ cls := "com/example/percurso/percurso/suite/Suite", name := "input", desc := "(II)I" } : Jvm.MethodName) prog_193_method_6_code (3 : Nat) (Option.some Jvm.ClassFile.FieldType.int)).before args0 about1 = true := code_word (m := ⟨15, 3⟩) (meth := k15m3) (c := k15c3) (by decide +kernel) rfl rfl rfl (by decide +kernel)
set_option maxRecDepth 65536 in
theorem w_c21 : (Jvm.Cond.code ({ cls := "com/example/percurso/percurso/suite/PrefixTree", name := "child", desc := "(II)I" } : Jvm.MethodName) prog_191_method_9_code (4 : Nat) (Option.some Jvm.ClassFile.FieldType.int)).before args0 about1 = true := code_word (m := ⟨14, 2⟩) (meth := k14m2) (c := k14c2) (by decide +kernel) rfl rfl rfl (by decide +kernel)
set_option maxRecDepth 65536 in
theorem w_c22 : (Jvm.Cond.code ({ cls := "com/example/percurso/percurso/suite/PrefixTree", name := "link", desc := "(IIII)V" } : Jvm.MethodName) prog_191_method_2_code (7 : Nat) (Option.none : Option Jvm.ClassFile.FieldType)).before args0 about1 = true := code_word (m := ⟨14, 1⟩) (meth := k14m1) (c := k14c1) (by decide +kernel) rfl rfl rfl (by decide +kernel)
def codes1 : List Jvm.Cond := [Jvm.Cond.code x code maxLocals ret, Jvm.Cond.code ({ cls := "java/util/ArrayList", name := "<init>", desc := "()V" } : Jvm.MethodName) jdk_38_method_2_code (1 : Nat) (Option.none : Option Jvm.ClassFile.FieldType), Jvm.Cond.code ({ cls := "java/util/AbstractList", name := "<init>", desc := "()V" } : Jvm.MethodName) jdk_39_method_1_code (1 : Nat) (Option.none : Option Jvm.ClassFile.FieldType), Jvm.Cond.code ({ cls := "java/util/AbstractCollection", name := "<init>", desc := "()V" } : Jvm.MethodName) jdk_22_method_1_code (1 : Nat) (Option.none : Option Jvm.ClassFile.FieldType), Jvm.Cond.code ({ cls := "java/lang/Object", name := "<init>", desc := "()V" } : Jvm.MethodName) object_method_1_code (1 : Nat) (Option.none : Option Jvm.ClassFile.FieldType), Jvm.Cond.code ({ cls := "java/util/ArrayList", name := "add", desc := "(Ljava/lang/Object;)Z" } : Jvm.MethodName) jdk_38_method_25_code (2 : Nat) (Option.some Jvm.ClassFile.FieldType.boolean), Jvm.Cond.code ({ cls := "java/util/ArrayList", name := "add", desc := "(Ljava/lang/Object;[Ljava/lang/Object;I)V" } : Jvm.MethodName) jdk_38_method_24_code (4 : Nat) (Option.none : Option Jvm.ClassFile.FieldType), Jvm.Cond.code ({ cls := "java/util/ArrayList", name := "grow", desc := "()[Ljava/lang/Object;" } : Jvm.MethodName) jdk_38_method_7_code (1 : Nat) (Option.some (Jvm.ClassFile.FieldType.array (Jvm.ClassFile.FieldType.object "java/lang/Object"))), Jvm.Cond.code ({ cls := "java/util/ArrayList", name := "grow", desc := "(I)[Ljava/lang/Object;" } : Jvm.MethodName) jdk_38_method_6_code (4 : Nat) (Option.some (Jvm.ClassFile.FieldType.array (Jvm.ClassFile.FieldType.object "java/lang/Object"))), Jvm.Cond.code ({ cls := "java/lang/Math", name := "max", desc := "(II)I" } : Jvm.MethodName) jdk_29_method_65_code (2 : Nat) (Option.some Jvm.ClassFile.FieldType.int), Jvm.Cond.code ({ cls := "com/example/percurso/percurso/suite/Suite", name := "<init>", desc := "(Ljava/util/List;)V" } : Jvm.MethodName) prog_193_method_1_code (3 : Nat) (Option.none : Option Jvm.ClassFile.FieldType), Jvm.Cond.code ({ cls := "java/util/ArrayList", name := "size", desc := "()I" } : Jvm.MethodName) jdk_38_method_8_code (1 : Nat) (Option.some Jvm.ClassFile.FieldType.int), Jvm.Cond.code ({ cls := "java/util/ArrayList", name := "get", desc := "(I)Ljava/lang/Object;" } : Jvm.MethodName) jdk_38_method_20_code (2 : Nat) (Option.some (Jvm.ClassFile.FieldType.object "java/lang/Object")), Jvm.Cond.code ({ cls := "java/util/Objects", name := "checkIndex", desc := "(II)I" } : Jvm.MethodName) jdk_31_method_17_code (2 : Nat) (Option.some Jvm.ClassFile.FieldType.int), Jvm.Cond.code ({ cls := "jdk/internal/util/Preconditions", name := "checkIndex", desc := "(IILjava/util/function/BiFunction;)I" } : Jvm.MethodName) jdk_41_method_11_code (3 : Nat) (Option.some Jvm.ClassFile.FieldType.int), Jvm.Cond.code ({ cls := "java/util/ArrayList", name := "elementData", desc := "(I)Ljava/lang/Object;" } : Jvm.MethodName) jdk_38_method_18_code (2 : Nat) (Option.some (Jvm.ClassFile.FieldType.object "java/lang/Object")), Jvm.Cond.code ({ cls := "com/example/percurso/percurso/suite/PrefixTree", name := "<init>", desc := "(Lcom/example/percurso/percurso/suite/Suite;)V" } : Jvm.MethodName) prog_191_method_1_code (16 : Nat) (Option.none : Option Jvm.ClassFile.FieldType), Jvm.Cond.code ({ cls := "com/example/percurso/percurso/suite/Suite", name := "inputCount", desc := "()J" } : Jvm.MethodName) prog_193_method_7_code (7 : Nat) (Option.some Jvm.ClassFile.FieldType.long), Jvm.Cond.code ({ cls := "com/example/percurso/percurso/suite/Suite", name := "testCount", desc := "()I" } : Jvm.MethodName) prog_193_method_3_code (1 : Nat) (Option.some Jvm.ClassFile.FieldType.int), Jvm.Cond.code ({ cls := "com/example/percurso/percurso/suite/Suite", name := "length", desc := "(I)I" } : Jvm.MethodName) prog_193_method_4_code (2 : Nat) (Option.some Jvm.ClassFile.FieldType.int), Jvm.Cond.code ({ cls := "com/example/percurso/percurso/suite/Suite", name := "input", desc := "(II)I" } : Jvm.MethodName) prog_193_method_6_code (3 : Nat) (Option.some Jvm.ClassFile.FieldType.int), Jvm.Cond.code ({ cls := "com/example/percurso/percurso/suite/PrefixTree", name := "child", desc := "(II)I" } : Jvm.MethodName) prog_191_method_9_code (4 : Nat) (Option.some Jvm.ClassFile.FieldType.int), Jvm.Cond.code ({ cls := "com/example/percurso/percurso/suite/PrefixTree", name := "link", desc := "(IIII)V" } : Jvm.MethodName) prog_191_method_2_code (7 : Nat) (Option.none : Option Jvm.ClassFile.FieldType)]
set_option maxRecDepth 65536 in
theorem codes_eq : words1.filter isCode = codes1 := rfl
theorem w_codes : ∀ c ∈ words1.filter isCode, c.before args0 about1 = true := by
  rw [codes_eq]
  intro c hc
  simp only [codes1, List.mem_cons, List.not_mem_nil, or_false] at hc
  rcases hc with rfl | rfl | rfl | rfl | rfl | rfl | rfl | rfl | rfl | rfl | rfl | rfl | rfl | rfl | rfl | rfl | rfl | rfl | rfl | rfl | rfl | rfl | rfl
  · exact w_c0
  · exact w_c1
  · exact w_c2
  · exact w_c3
  · exact w_c4
  · exact w_c5
  · exact w_c6
  · exact w_c7
  · exact w_c8
  · exact w_c9
  · exact w_c10
  · exact w_c11
  · exact w_c12
  · exact w_c13
  · exact w_c14
  · exact w_c15
  · exact w_c16
  · exact w_c17
  · exact w_c18
  · exact w_c19
  · exact w_c20
  · exact w_c21
  · exact w_c22
set_option maxRecDepth 65536 in
theorem w_t1 : (words1.take 24).all (fun c => isCode c || c.before args0 about1) = true := by decide +kernel
set_option maxRecDepth 65536 in
theorem w_t2 : ((words1.drop 24).take 24).all (fun c => isCode c || c.before args0 about1) = true := by decide +kernel
set_option maxRecDepth 65536 in
theorem w_t3 : (((words1.drop 24).drop 24).take 24).all (fun c => isCode c || c.before args0 about1) = true := by decide +kernel
set_option maxRecDepth 65536 in
theorem w_t4 : ((((words1.drop 24).drop 24).drop 24).take 24).all (fun c => isCode c || c.before args0 about1) = true := by decide +kernel
set_option maxRecDepth 65536 in
theorem w_t5 : (((((words1.drop 24).drop 24).drop 24).drop 24).take 24).all (fun c => isCode c || c.before args0 about1) = true := by decide +kernel
set_option maxRecDepth 65536 in
theorem w_t6 : ((((((words1.drop 24).drop 24).drop 24).drop 24).drop 24).take 24).all (fun c => isCode c || c.before args0 about1) = true := by decide +kernel
set_option maxRecDepth 65536 in
theorem w_t7 : ((((((words1.drop 24).drop 24).drop 24).drop 24).drop 24).drop 24).all (fun c => isCode c || c.before args0 about1) = true := by decide +kernel
theorem w_tables : (allAtoms (Jvm.Cond.code x code maxLocals ret :: tables_1)).before args0 about1 = true := by
  rw [allAtoms_all]
  show words1.all (fun c => c.before args0 about1) = true
  refine all_split ?_ w_codes
  rw [← List.take_append_drop 24 words1, List.all_append, w_t1, ← List.take_append_drop 24 (words1.drop 24), List.all_append, w_t2, ← List.take_append_drop 24 ((words1.drop 24).drop 24), List.all_append, w_t3, ← List.take_append_drop 24 (((words1.drop 24).drop 24).drop 24), List.all_append, w_t4, ← List.take_append_drop 24 ((((words1.drop 24).drop 24).drop 24).drop 24), List.all_append, w_t5, ← List.take_append_drop 24 (((((words1.drop 24).drop 24).drop 24).drop 24).drop 24), List.all_append, w_t6, w_t7]
  rfl
set_option maxRecDepth 65536 in
theorem w_rest : rest_1_c.before args0 about1 = true := by decide +kernel
set_option maxRecDepth 65536 in
theorem w_case : (Jvm.Cond.and given_1 narrow_1).before args0 about1 = true := by decide +kernel
theorem w_applies : (headSpec (Jvm.Cond.code x code maxLocals ret :: tables_1) room_1).applies x e0.platform about1 = true :=
  (Spec.applies_iff w_frames).mpr ⟨w_running, w_runnable, w_alone, w_named, w_hears, w_ripe, w_room, w_tables⟩
theorem atStart : AtStart classFile x code maxLocals ret World_1 tables_1 room_1 Calls_1 rest_1 Pre_1 launch0 p0 e0 about1 theMethod args0 below0 :=
  ⟨lists_1, trivial, launch0.admits_env _ _ _, launch0.least_env, fairChoices_fair.cas, fairChoices_fair.clock, w_frames, w_args, w_heap, w_applies, trivial, w_rest, w_case⟩
end start1
theorem witness_1 : WitnessClaimed_1 := ⟨start1.p0, start1.e0, start1.about1, start1.theMethod, start1.args0, start1.below0, start1.atStart⟩
end Jvm.Pilot.@@N@@
