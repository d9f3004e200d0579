import JvmDerived
import JvmDerived.Pilot.@@N@@Statement
import JvmDerived.Pilot.@@N@@Code
set_option linter.unusedVariables false
set_option linter.unusedSimpArgs false
namespace Jvm.RoadKit
open Sem ClassFile Op Lib Jvm.Stand Jvm.Free Jvm.LawKit
section New
variable {p : Program} {l : Launch} {e : Env} {R : Room} {s : State} {m : MethodId} {args : Array Value} {below : List Frame} {meth : Method} {c : Code} {T : State} {locs : List Loc} {cells slots : Nat}
theorem retI (X : Stand p l e R s m args below meth c T locs cells slots) (hx : p.tables.exec = Jvm.exec) {pc : Nat} {Ls : Array Slot} {z : Int32} {rest : List Value} (hret : meth.sig.returnType = some .int) (hd : decode c.code pc = .ok (.ireturn, 1)) {fs : List Frame}
    (hl : ∀ (f : JFrame) (acts : List Action), f.method = m → f.locked = none → f.entered = [] → (doReturn e (T.setTop f) acts (some (.int z))).1 = T.setFrames fs) : Steps p.tables e below (T.setTop (mkF m pc Ls (.int z :: rest))) (T.setFrames fs) :=
  retOut X hx hret rfl (Or.inl ⟨rfl, Or.inl rfl, _, rfl⟩) hd hl
theorem retJ (X : Stand p l e R s m args below meth c T locs cells slots) (hx : p.tables.exec = Jvm.exec) {pc : Nat} {Ls : Array Slot} {z : Int64} {rest : List Value} (hret : meth.sig.returnType = some .long) (hd : decode c.code pc = .ok (.lreturn, 1)) {fs : List Frame}
    (hl : ∀ (f : JFrame) (acts : List Action), f.method = m → f.locked = none → f.entered = [] → (doReturn e (T.setTop f) acts (some (.long z))).1 = T.setFrames fs) : Steps p.tables e below (T.setTop (mkF m pc Ls (.long z :: rest))) (T.setFrames fs) :=
  retOut X hx hret rfl (Or.inr (Or.inl ⟨rfl, rfl, _, rfl⟩)) hd hl
theorem retR (X : Stand p l e R s m args below meth c T locs cells slots) (hx : p.tables.exec = Jvm.exec) {pc : Nat} {Ls : Array Slot} {w : Value} {t : FieldType} {rest : List Value} (hret : meth.sig.returnType = some t) (ht : t.isReference = true) (hv : w.isRef = true) (hd : decode c.code pc = .ok (.areturn, 1)) {fs : List Frame}
    (hl : ∀ (f : JFrame) (acts : List Action), f.method = m → f.locked = none → f.entered = [] → (doReturn e (T.setTop f) acts (some w)).1 = T.setFrames fs) : Steps p.tables e below (T.setTop (mkF m pc Ls (w :: rest))) (T.setFrames fs) :=
  retOut X hx hret (by cases t <;> simp_all [narrow, FieldType.isReference]) (Or.inr (Or.inr (Or.inr (Or.inr ⟨rfl, ht, hv⟩)))) hd hl
end New
end Jvm.RoadKit
namespace Jvm.Pilot.@@N@@
open Jvm Jvm.ClassFile Sem Op Lib Jvm.Free Jvm.Stand Jvm.LawKit Jvm.RoadKit Bundle Jvm.Pilot.@@N@@.Jvm.D
def Done (p : Program) (e : Env) (below : List Frame) (P : State → Outcome → Prop) (A : State) : Prop := ∃ s₂ o, Steps p.tables e below A s₂ ∧ s₂.status = .running ∧ Ended s₂ below o ∧ P s₂ o
theorem Done.st {p : Program} {e : Env} {below : List Frame} {P : State → Outcome → Prop} {A B : State} (k : ∀ t, Steps p.tables e below B t → Steps p.tables e below A t) (h : Done p e below P B) : Done p e below P A := by
  obtain ⟨s₂, o, h1, h2⟩ := h; exact ⟨s₂, o, k _ h1, h2⟩
theorem Done.fin {p : Program} {e : Env} {below : List Frame} {P : State → Outcome → Prop} {A U : State} {o : Outcome} (k : Steps p.tables e below A U) (h1 : U.status = .running) (h2 : Ended U below o) (h3 : P U o) : Done p e below P A := ⟨U, o, k, h1, h2, h3⟩
theorem d1_0 : decode jdk_38_method_2_code 0 = .ok (.aload_n 0, 1) := by decide +kernel
theorem d1_1 : decode jdk_38_method_2_code 1 = .ok (.invokespecial 1, 3) := by decide +kernel
theorem d1_4 : decode jdk_38_method_2_code 4 = .ok (.aload_n 0, 1) := by decide +kernel
theorem d1_5 : decode jdk_38_method_2_code 5 = .ok (.getstatic 39, 3) := by decide +kernel
theorem d1_8 : decode jdk_38_method_2_code 8 = .ok (.putfield 9, 3) := by decide +kernel
theorem d1_11 : decode jdk_38_method_2_code 11 = .ok (.return_, 1) := by decide +kernel
theorem d2_0 : decode jdk_39_method_1_code 0 = .ok (.aload_n 0, 1) := by decide +kernel
theorem d2_1 : decode jdk_39_method_1_code 1 = .ok (.invokespecial 1, 3) := by decide +kernel
theorem d2_4 : decode jdk_39_method_1_code 4 = .ok (.aload_n 0, 1) := by decide +kernel
theorem d2_5 : decode jdk_39_method_1_code 5 = .ok (.iconst 0, 1) := by decide +kernel
theorem d2_6 : decode jdk_39_method_1_code 6 = .ok (.putfield 7, 3) := by decide +kernel
theorem d2_9 : decode jdk_39_method_1_code 9 = .ok (.return_, 1) := by decide +kernel
theorem d3_0 : decode jdk_22_method_1_code 0 = .ok (.aload_n 0, 1) := by decide +kernel
theorem d3_1 : decode jdk_22_method_1_code 1 = .ok (.invokespecial 1, 3) := by decide +kernel
theorem d3_4 : decode jdk_22_method_1_code 4 = .ok (.return_, 1) := by decide +kernel
theorem d5_0 : decode prog_192_method_1_code 0 = .ok (.aload_n 0, 1) := by decide +kernel
theorem d5_1 : decode prog_192_method_1_code 1 = .ok (.invokespecial 1, 3) := by decide +kernel
theorem d5_4 : decode prog_192_method_1_code 4 = .ok (.aload_n 0, 1) := by decide +kernel
theorem d5_5 : decode prog_192_method_1_code 5 = .ok (.aload_n 1, 1) := by decide +kernel
theorem d5_6 : decode prog_192_method_1_code 6 = .ok (.invokeinterface 7 1, 5) := by decide +kernel
theorem d5_11 : decode prog_192_method_1_code 11 = .ok (.anewarray 13, 3) := by decide +kernel
theorem d5_14 : decode prog_192_method_1_code 14 = .ok (.putfield 15, 3) := by decide +kernel
theorem d5_17 : decode prog_192_method_1_code 17 = .ok (.iconst 0, 1) := by decide +kernel
theorem d5_18 : decode prog_192_method_1_code 18 = .ok (.istore_n 2, 1) := by decide +kernel
theorem d5_19 : decode prog_192_method_1_code 19 = .ok (.iload_n 2, 1) := by decide +kernel
theorem d5_20 : decode prog_192_method_1_code 20 = .ok (.aload_n 0, 1) := by decide +kernel
theorem d5_21 : decode prog_192_method_1_code 21 = .ok (.getfield 15, 3) := by decide +kernel
theorem d5_24 : decode prog_192_method_1_code 24 = .ok (.arraylength, 1) := by decide +kernel
theorem d5_25 : decode prog_192_method_1_code 25 = .ok (.if_icmp .ge 31, 3) := by decide +kernel
theorem d5_28 : decode prog_192_method_1_code 28 = .ok (.aload_n 0, 1) := by decide +kernel
theorem d5_29 : decode prog_192_method_1_code 29 = .ok (.getfield 15, 3) := by decide +kernel
theorem d5_32 : decode prog_192_method_1_code 32 = .ok (.iload_n 2, 1) := by decide +kernel
theorem d5_33 : decode prog_192_method_1_code 33 = .ok (.aload_n 1, 1) := by decide +kernel
theorem d5_34 : decode prog_192_method_1_code 34 = .ok (.iload_n 2, 1) := by decide +kernel
theorem d5_35 : decode prog_192_method_1_code 35 = .ok (.invokeinterface 21 2, 5) := by decide +kernel
theorem d5_40 : decode prog_192_method_1_code 40 = .ok (.checkcast 13, 3) := by decide +kernel
theorem d5_43 : decode prog_192_method_1_code 43 = .ok (.invokevirtual 25, 3) := by decide +kernel
theorem d5_46 : decode prog_192_method_1_code 46 = .ok (.checkcast 13, 3) := by decide +kernel
theorem d5_49 : decode prog_192_method_1_code 49 = .ok (.aastore, 1) := by decide +kernel
theorem d5_50 : decode prog_192_method_1_code 50 = .ok (.iinc 2 1, 3) := by decide +kernel
theorem d5_53 : decode prog_192_method_1_code 53 = .ok (.goto (-34), 3) := by decide +kernel
theorem d5_56 : decode prog_192_method_1_code 56 = .ok (.return_, 1) := by decide +kernel
theorem d6_0 : decode jdk_38_method_8_code 0 = .ok (.aload_n 0, 1) := by decide +kernel
theorem d6_1 : decode jdk_38_method_8_code 1 = .ok (.getfield 48, 3) := by decide +kernel
theorem d6_4 : decode jdk_38_method_8_code 4 = .ok (.ireturn, 1) := by decide +kernel
theorem d7_0 : decode prog_192_method_7_code 0 = .ok (.lconst 0, 1) := by decide +kernel
theorem d7_1 : decode prog_192_method_7_code 1 = .ok (.lstore_n 1, 1) := by decide +kernel
theorem d7_2 : decode prog_192_method_7_code 2 = .ok (.aload_n 0, 1) := by decide +kernel
theorem d7_3 : decode prog_192_method_7_code 3 = .ok (.getfield 15, 3) := by decide +kernel
theorem d7_6 : decode prog_192_method_7_code 6 = .ok (.astore_n 3, 1) := by decide +kernel
theorem d7_7 : decode prog_192_method_7_code 7 = .ok (.aload_n 3, 1) := by decide +kernel
theorem d7_8 : decode prog_192_method_7_code 8 = .ok (.arraylength, 1) := by decide +kernel
theorem d7_9 : decode prog_192_method_7_code 9 = .ok (.istore 4, 2) := by decide +kernel
theorem d7_11 : decode prog_192_method_7_code 11 = .ok (.iconst 0, 1) := by decide +kernel
theorem d7_12 : decode prog_192_method_7_code 12 = .ok (.istore 5, 2) := by decide +kernel
theorem d7_14 : decode prog_192_method_7_code 14 = .ok (.iload 5, 2) := by decide +kernel
theorem d7_16 : decode prog_192_method_7_code 16 = .ok (.iload 4, 2) := by decide +kernel
theorem d7_18 : decode prog_192_method_7_code 18 = .ok (.if_icmp .ge 22, 3) := by decide +kernel
theorem d7_21 : decode prog_192_method_7_code 21 = .ok (.aload_n 3, 1) := by decide +kernel
theorem d7_22 : decode prog_192_method_7_code 22 = .ok (.iload 5, 2) := by decide +kernel
theorem d7_24 : decode prog_192_method_7_code 24 = .ok (.aaload, 1) := by decide +kernel
theorem d7_25 : decode prog_192_method_7_code 25 = .ok (.astore 6, 2) := by decide +kernel
theorem d7_27 : decode prog_192_method_7_code 27 = .ok (.lload_n 1, 1) := by decide +kernel
theorem d7_28 : decode prog_192_method_7_code 28 = .ok (.aload 6, 2) := by decide +kernel
theorem d7_30 : decode prog_192_method_7_code 30 = .ok (.arraylength, 1) := by decide +kernel
theorem d7_31 : decode prog_192_method_7_code 31 = .ok (.i2l, 1) := by decide +kernel
theorem d7_32 : decode prog_192_method_7_code 32 = .ok (.ladd, 1) := by decide +kernel
theorem d7_33 : decode prog_192_method_7_code 33 = .ok (.lstore_n 1, 1) := by decide +kernel
theorem d7_34 : decode prog_192_method_7_code 34 = .ok (.iinc 5 1, 3) := by decide +kernel
theorem d7_37 : decode prog_192_method_7_code 37 = .ok (.goto (-23), 3) := by decide +kernel
theorem d7_40 : decode prog_192_method_7_code 40 = .ok (.lload_n 1, 1) := by decide +kernel
theorem d7_41 : decode prog_192_method_7_code 41 = .ok (.lreturn, 1) := by decide +kernel
theorem d8_0 : decode jdk_38_method_25_code 0 = .ok (.aload_n 0, 1) := by decide +kernel
theorem d8_1 : decode jdk_38_method_25_code 1 = .ok (.dup, 1) := by decide +kernel
theorem d8_2 : decode jdk_38_method_25_code 2 = .ok (.getfield 63, 3) := by decide +kernel
theorem d8_5 : decode jdk_38_method_25_code 5 = .ok (.iconst 1, 1) := by decide +kernel
theorem d8_6 : decode jdk_38_method_25_code 6 = .ok (.iadd, 1) := by decide +kernel
theorem d8_7 : decode jdk_38_method_25_code 7 = .ok (.putfield 63, 3) := by decide +kernel
theorem d8_10 : decode jdk_38_method_25_code 10 = .ok (.aload_n 0, 1) := by decide +kernel
theorem d8_11 : decode jdk_38_method_25_code 11 = .ok (.aload_n 1, 1) := by decide +kernel
theorem d8_12 : decode jdk_38_method_25_code 12 = .ok (.aload_n 0, 1) := by decide +kernel
theorem d8_13 : decode jdk_38_method_25_code 13 = .ok (.getfield 9, 3) := by decide +kernel
theorem d8_16 : decode jdk_38_method_25_code 16 = .ok (.aload_n 0, 1) := by decide +kernel
theorem d8_17 : decode jdk_38_method_25_code 17 = .ok (.getfield 48, 3) := by decide +kernel
theorem d8_20 : decode jdk_38_method_25_code 20 = .ok (.invokevirtual 131, 3) := by decide +kernel
theorem d8_23 : decode jdk_38_method_25_code 23 = .ok (.iconst 1, 1) := by decide +kernel
theorem d8_24 : decode jdk_38_method_25_code 24 = .ok (.ireturn, 1) := by decide +kernel
theorem d9_0 : decode jdk_38_method_24_code 0 = .ok (.iload_n 3, 1) := by decide +kernel
theorem d9_1 : decode jdk_38_method_24_code 1 = .ok (.aload_n 2, 1) := by decide +kernel
theorem d9_2 : decode jdk_38_method_24_code 2 = .ok (.arraylength, 1) := by decide +kernel
theorem d9_3 : decode jdk_38_method_24_code 3 = .ok (.if_icmp .ne 8, 3) := by decide +kernel
theorem d9_6 : decode jdk_38_method_24_code 6 = .ok (.aload_n 0, 1) := by decide +kernel
theorem d9_7 : decode jdk_38_method_24_code 7 = .ok (.invokevirtual 129, 3) := by decide +kernel
theorem d9_10 : decode jdk_38_method_24_code 10 = .ok (.astore_n 2, 1) := by decide +kernel
theorem d9_11 : decode jdk_38_method_24_code 11 = .ok (.aload_n 2, 1) := by decide +kernel
theorem d9_12 : decode jdk_38_method_24_code 12 = .ok (.iload_n 3, 1) := by decide +kernel
theorem d9_13 : decode jdk_38_method_24_code 13 = .ok (.aload_n 1, 1) := by decide +kernel
theorem d9_14 : decode jdk_38_method_24_code 14 = .ok (.aastore, 1) := by decide +kernel
theorem d9_15 : decode jdk_38_method_24_code 15 = .ok (.aload_n 0, 1) := by decide +kernel
theorem d9_16 : decode jdk_38_method_24_code 16 = .ok (.iload_n 3, 1) := by decide +kernel
theorem d9_17 : decode jdk_38_method_24_code 17 = .ok (.iconst 1, 1) := by decide +kernel
theorem d9_18 : decode jdk_38_method_24_code 18 = .ok (.iadd, 1) := by decide +kernel
theorem d9_19 : decode jdk_38_method_24_code 19 = .ok (.putfield 48, 3) := by decide +kernel
theorem d9_22 : decode jdk_38_method_24_code 22 = .ok (.return_, 1) := by decide +kernel
theorem d10_0 : decode jdk_38_method_7_code 0 = .ok (.aload_n 0, 1) := by decide +kernel
theorem d10_1 : decode jdk_38_method_7_code 1 = .ok (.aload_n 0, 1) := by decide +kernel
theorem d10_2 : decode jdk_38_method_7_code 2 = .ok (.getfield 48, 3) := by decide +kernel
theorem d10_5 : decode jdk_38_method_7_code 5 = .ok (.iconst 1, 1) := by decide +kernel
theorem d10_6 : decode jdk_38_method_7_code 6 = .ok (.iadd, 1) := by decide +kernel
theorem d10_7 : decode jdk_38_method_7_code 7 = .ok (.invokevirtual 69, 3) := by decide +kernel
theorem d10_10 : decode jdk_38_method_7_code 10 = .ok (.areturn, 1) := by decide +kernel
theorem d11_0 : decode jdk_38_method_6_code 0 = .ok (.aload_n 0, 1) := by decide +kernel
theorem d11_1 : decode jdk_38_method_6_code 1 = .ok (.getfield 9, 3) := by decide +kernel
theorem d11_4 : decode jdk_38_method_6_code 4 = .ok (.arraylength, 1) := by decide +kernel
theorem d11_5 : decode jdk_38_method_6_code 5 = .ok (.istore_n 2, 1) := by decide +kernel
theorem d11_6 : decode jdk_38_method_6_code 6 = .ok (.iload_n 2, 1) := by decide +kernel
theorem d11_7 : decode jdk_38_method_6_code 7 = .ok (.ifCond .gt 13, 3) := by decide +kernel
theorem d11_10 : decode jdk_38_method_6_code 10 = .ok (.aload_n 0, 1) := by decide +kernel
theorem d11_11 : decode jdk_38_method_6_code 11 = .ok (.getfield 9, 3) := by decide +kernel
theorem d11_14 : decode jdk_38_method_6_code 14 = .ok (.getstatic 39, 3) := by decide +kernel
theorem d11_17 : decode jdk_38_method_6_code 17 = .ok (.if_acmp .eq 28, 3) := by decide +kernel
theorem d11_45 : decode jdk_38_method_6_code 45 = .ok (.aload_n 0, 1) := by decide +kernel
theorem d11_46 : decode jdk_38_method_6_code 46 = .ok (.bipush 10, 2) := by decide +kernel
theorem d11_48 : decode jdk_38_method_6_code 48 = .ok (.iload_n 1, 1) := by decide +kernel
theorem d11_49 : decode jdk_38_method_6_code 49 = .ok (.invokestatic 79, 3) := by decide +kernel
theorem d11_52 : decode jdk_38_method_6_code 52 = .ok (.anewarray 7, 3) := by decide +kernel
theorem d11_55 : decode jdk_38_method_6_code 55 = .ok (.dup_x1, 1) := by decide +kernel
theorem d11_56 : decode jdk_38_method_6_code 56 = .ok (.putfield 9, 3) := by decide +kernel
theorem d11_59 : decode jdk_38_method_6_code 59 = .ok (.areturn, 1) := by decide +kernel
theorem d12_0 : decode jdk_29_method_65_code 0 = .ok (.iload_n 0, 1) := by decide +kernel
theorem d12_1 : decode jdk_29_method_65_code 1 = .ok (.iload_n 1, 1) := by decide +kernel
theorem d12_2 : decode jdk_29_method_65_code 2 = .ok (.if_icmp .lt 7, 3) := by decide +kernel
theorem d12_5 : decode jdk_29_method_65_code 5 = .ok (.iload_n 0, 1) := by decide +kernel
theorem d12_6 : decode jdk_29_method_65_code 6 = .ok (.goto 4, 3) := by decide +kernel
theorem d12_9 : decode jdk_29_method_65_code 9 = .ok (.iload_n 1, 1) := by decide +kernel
theorem d12_10 : decode jdk_29_method_65_code 10 = .ok (.ireturn, 1) := by decide +kernel
theorem d13_0 : decode jdk_38_method_20_code 0 = .ok (.iload_n 1, 1) := by decide +kernel
theorem d13_1 : decode jdk_38_method_20_code 1 = .ok (.aload_n 0, 1) := by decide +kernel
theorem d13_2 : decode jdk_38_method_20_code 2 = .ok (.getfield 48, 3) := by decide +kernel
theorem d13_5 : decode jdk_38_method_20_code 5 = .ok (.invokestatic 118, 3) := by decide +kernel
theorem d13_8 : decode jdk_38_method_20_code 8 = .ok (.pop, 1) := by decide +kernel
theorem d13_9 : decode jdk_38_method_20_code 9 = .ok (.aload_n 0, 1) := by decide +kernel
theorem d13_10 : decode jdk_38_method_20_code 10 = .ok (.iload_n 1, 1) := by decide +kernel
theorem d13_11 : decode jdk_38_method_20_code 11 = .ok (.invokevirtual 123, 3) := by decide +kernel
theorem d13_14 : decode jdk_38_method_20_code 14 = .ok (.areturn, 1) := by decide +kernel
theorem d14_0 : decode jdk_31_method_17_code 0 = .ok (.iload_n 0, 1) := by decide +kernel
theorem d14_1 : decode jdk_31_method_17_code 1 = .ok (.iload_n 1, 1) := by decide +kernel
theorem d14_2 : decode jdk_31_method_17_code 2 = .ok (.aconst_null, 1) := by decide +kernel
theorem d14_3 : decode jdk_31_method_17_code 3 = .ok (.invokestatic 105, 3) := by decide +kernel
theorem d14_6 : decode jdk_31_method_17_code 6 = .ok (.ireturn, 1) := by decide +kernel
theorem d15_0 : decode jdk_41_method_11_code 0 = .ok (.iload_n 0, 1) := by decide +kernel
theorem d15_1 : decode jdk_41_method_11_code 1 = .ok (.ifCond .lt 8, 3) := by decide +kernel
theorem d15_4 : decode jdk_41_method_11_code 4 = .ok (.iload_n 0, 1) := by decide +kernel
theorem d15_5 : decode jdk_41_method_11_code 5 = .ok (.iload_n 1, 1) := by decide +kernel
theorem d15_6 : decode jdk_41_method_11_code 6 = .ok (.if_icmp .lt 10, 3) := by decide +kernel
theorem d15_16 : decode jdk_41_method_11_code 16 = .ok (.iload_n 0, 1) := by decide +kernel
theorem d15_17 : decode jdk_41_method_11_code 17 = .ok (.ireturn, 1) := by decide +kernel
theorem d16_0 : decode jdk_38_method_18_code 0 = .ok (.aload_n 0, 1) := by decide +kernel
theorem d16_1 : decode jdk_38_method_18_code 1 = .ok (.getfield 9, 3) := by decide +kernel
theorem d16_4 : decode jdk_38_method_18_code 4 = .ok (.iload_n 1, 1) := by decide +kernel
theorem d16_5 : decode jdk_38_method_18_code 5 = .ok (.aaload, 1) := by decide +kernel
theorem d16_6 : decode jdk_38_method_18_code 6 = .ok (.areturn, 1) := by decide +kernel
theorem pn_0 : plainName "java/util/AbstractCollection" = true := by first | (simp [plainName, overriddenIn]; done) | decide +kernel
theorem pn_1 : plainName "java/util/AbstractList" = true := by first | (simp [plainName, overriddenIn]; done) | decide +kernel
theorem pn_2 : plainName "java/util/ArrayList" = true := by first | (simp [plainName, overriddenIn]; done) | decide +kernel
theorem pn_3 : plainName "jdk/internal/util/Preconditions" = true := by first | (simp [plainName, overriddenIn]; done) | decide +kernel
theorem pn_4 : plainName "java/util/Objects" = true := by first | (simp [plainName, overriddenIn]; done) | decide +kernel
theorem pn_5 : plainName "com/example/percurso/percurso/suite/Suite" = true := by first | (simp [plainName, overriddenIn]; done) | decide +kernel
theorem pn_6 : plainName "com/example/percurso/percurso/suite/SuiteInputCountPinLaw" = true := by first | (simp [plainName, overriddenIn]; done) | decide +kernel
theorem pd_0 : parseMethodDescriptor "()V" = some ⟨[], none⟩ := by decide +kernel
theorem pd_1 : parseMethodDescriptor "(II)I" = some ⟨[.int, .int], some .int⟩ := by decide +kernel
theorem pd_2 : parseMethodDescriptor "(I)[Ljava/lang/Object;" = some ⟨[.int], some (.array (.object "java/lang/Object"))⟩ := by decide +kernel
theorem pd_3 : parseMethodDescriptor "()[Ljava/lang/Object;" = some ⟨[], some (.array (.object "java/lang/Object"))⟩ := by decide +kernel
theorem pd_4 : parseMethodDescriptor "(Ljava/lang/Object;[Ljava/lang/Object;I)V" = some ⟨[(.object "java/lang/Object"), (.array (.object "java/lang/Object")), .int], none⟩ := by decide +kernel
theorem pd_5 : parseMethodDescriptor "(IILjava/util/function/BiFunction;)I" = some ⟨[.int, .int, (.object "java/util/function/BiFunction")], some .int⟩ := by decide +kernel
theorem pd_6 : parseMethodDescriptor "(I)Ljava/lang/Object;" = some ⟨[.int], some (.object "java/lang/Object")⟩ := by decide +kernel
theorem pd_7 : parseMethodDescriptor "()I" = some ⟨[], some .int⟩ := by decide +kernel
theorem pd_8 : parseMethodDescriptor "(Ljava/util/List;)V" = some ⟨[(.object "java/util/List")], none⟩ := by decide +kernel
theorem pd_9 : parseMethodDescriptor "()J" = some ⟨[], some .long⟩ := by decide +kernel
theorem pd_10 : parseMethodDescriptor "(Ljava/lang/Object;)Z" = some ⟨[(.object "java/lang/Object")], some .boolean⟩ := by decide +kernel
theorem own_eqv {a b : Term} {args : Array Value} {f s : State} {o : Option Outcome} {idx : List Nat} (h : (Cond.eq a b).value args f o s idx = some true) {v : Value} (hb : b.eval args f o idx s = some v) : a.eval args f o idx s = some v := by
  simp only [Cond.value] at h
  rw [hb] at h
  cases ha : a.eval args f o idx s with
  | none => rw [ha] at h; simp at h
  | some x => rw [ha] at h; cases x <;> cases v <;> simp_all

theorem own_ns_exa {Z : State} {h : Heap} {a : Addr} {C : String} (E : Exa Z h a C) : ∃ c : Cell, h[a]? = some c ∧ c.vm.isStatics = false := by obtain ⟨c, _, h1, _, _, h2, _⟩ := E; exact ⟨c, h1, h2⟩
theorem own_sta_keep {Z : State} {h h' : Heap} {C n d : String} {v : Value} {ws : List Addr} (F : Sta Z h C n d v) (K : Keep h h' ws) (q : ∀ x ∈ ws, ∃ c : Cell, h[x]? = some c ∧ c.vm.isStatics = false) : Sta Z h' C n d v := by
  obtain ⟨cf, i, k, f, st, cell, h1, h2, h3, h4, h5, h6, h7⟩ := F
  refine ⟨cf, i, k, f, st, cell, h1, h2, h3, h4, K.2.1 _ _ h5 (fun hm => ?_), h6, h7⟩
  obtain ⟨c, e1, e2⟩ := q _ hm
  rw [h5] at e1
  cases e1
  rw [h6] at e2
  cases e2
theorem own_ins_keep {Z : State} {h h' : Heap} {a : Addr} {C : String} {b : Bool} {ws : List Addr} (F : Ins Z h a C b) (K : Keep h h' ws) : Ins Z h' a C b := by
  obtain ⟨c, cT, h1, h2, h3⟩ := F
  obtain ⟨c', e1, e2, e3, e4⟩ := K.2.2 _ _ h1
  exact ⟨c', cT, e1, h2, by rw [e2, e3]; exact h3⟩

def IA (Z : State) (h : Heap) (a : Addr) (n : Int32) : Prop := ∃ (k : ClassId) (hs : List (Int32 × Value)) (vs : List Value) (dv : Value), Arh Z h a k .int n hs vs dv ∧ Exa Z h a "[I"
section Own
variable {p : Program} {l : Launch} {e : Env} {R : Room} {s : State} {m : MethodId} {args : Array Value} {below : List Frame} {meth : Method} {c : Code} {T : State} {locs : List Loc} {cells slots : Nat} {Z : State} {h h' : Heap}
theorem IA.lt {a : Addr} {n : Int32} (F : IA Z h a n) : a < h.size := by obtain ⟨_, _, _, _, F, _⟩ := F; exact F.lt
theorem IA.ext {a : Addr} {n : Int32} (F : IA Z h a n) (E : Ext h h') : IA Z h' a n := by obtain ⟨k, hs, vs, dv, F, G⟩ := F; exact ⟨k, hs, vs, dv, F.ext E, Exa.ext E G⟩
theorem IA.other {a b : Addr} {n : Int32} {sl : Nat} {v : Value} (F : IA Z h b n) (W : Wr h h' a sl v) (q : b ≠ a) : IA Z h' b n := by obtain ⟨k, hs, vs, dv, F, G⟩ := F; exact ⟨k, hs, vs, dv, F.other W q, Exa.wr W G⟩
theorem IA.keep {a : Addr} {n : Int32} {ws : List Addr} (F : IA Z h a n) (K : Keep h h' ws) (q : a ∉ ws) : IA Z h' a n := by obtain ⟨k, hs, vs, dv, F, G⟩ := F; exact ⟨k, hs, vs, dv, F.keep K q, G.keep K⟩
theorem IA.new {a : Addr} {n : Int32} {k : ClassId} (A : Arr Z h a (newA k .int n) .int) (q : ¬ n < 0) (E : Exa Z h a "[I") : IA Z h a n := ⟨k, [], [], _, (Arv.new A q).arh, E⟩
theorem IA.store (X : Stand p l e R s m args below meth c T locs cells slots) (hx : p.tables.exec = Jvm.exec) (hZ : Z.Warmed39 s.vm) (eT : T.heap = h) {a : Addr} {n j x : Int32} (F : IA Z h a n) (hj : ¬ j < 0 ∧ j < n) {g : JFrame} (hg : g.method = m) {rest : List Value} (hs : g.stack = .int x :: .int j :: .ref a :: rest) (hd : decode c.code g.pc = .ok (.iastore, 1)) :
    ∃ T' h', Stand p l e R s m args below meth c T' (locs ++ [⟨a, j.toNatClampNeg⟩]) cells slots ∧ T'.heap = h' ∧ Wr h h' a j.toNatClampNeg (.int x) ∧ IA Z h' a n ∧ ∀ target, Steps p.tables e below (T'.setTop { g with pc := g.pc + 1, stack := rest }) target → Steps p.tables e below (T.setTop g) target := by
  obtain ⟨k, hs', vs, dv, ⟨cl, A, q1, S, q3, H, G⟩, E⟩ := F
  have hin := inb_of S hj
  obtain ⟨T', h', X', e', W, st⟩ := stI X hx hZ eT A (j := j) hin hg hs hd
  exact ⟨T', h', X', e', W, ⟨k, _, vs, dv, Arh.push A q1 S q3 H G rfl W hin, Exa.wr W E⟩, st⟩
end Own

def own_imax (a b : Int32) : Int32 := if a < b then b else a

theorem own_m7 (x : Int32) : 0 ≤ (x &&& 7).toInt ∧ (x &&& 7).toInt ≤ 7 := by
  have a := c_and x 7 (by decide)
  have k : (7 : Int32).toInt = 7 := rfl
  omega
theorem own_ng {n : Int32} (h : 0 ≤ n.toInt ∧ n.toInt ≤ 7) : ¬ n < 0 := by rw [Int32.lt_iff_toInt_lt]; have k : (0 : Int32).toInt = 0 := rfl; omega
theorem own_cap {n : Int32} (h : 0 ≤ n.toInt ∧ n.toInt ≤ 7) : n.toNatClampNeg ≤ 7 := by simp only [Int32.toNatClampNeg]; omega
theorem own_b0 {n : Int32} (h : 0 < n) : ¬ (0 : Int32) < 0 ∧ (0 : Int32) < n := ⟨by decide, h⟩
theorem own_b1 {n : Int32} (h : 0 < n) : ¬ (n - 1) < 0 ∧ (n - 1) < n := by
  have k1 : ((1 : Int32)).toInt = 1 := rfl
  have k0 : ((0 : Int32)).toInt = 0 := rfl
  have e := c_isub n 1
  have r := rng32 n
  have r2 := rng32 (n - 1)
  rw [Int32.lt_iff_toInt_lt, k0] at h
  rw [Int32.lt_iff_toInt_lt, Int32.lt_iff_toInt_lt, k0]
  omega
theorem own_five (n : Int32) : (n = 0 ∨ n = 1 ∨ n = 2 ∨ n = 3) ∨ ¬ n < 4 ∨ n < 0 := by
  have k0 : ((0 : Int32)).toInt = 0 := rfl
  have k4 : ((4 : Int32)).toInt = 4 := rfl
  have e : ∀ m : Int32, n.toInt = m.toInt → n = m := fun m h => Int32.toInt_inj.mp h
  by_cases h : n < 0
  · exact Or.inr (Or.inr h)
  · by_cases g : n < 4
    · left
      rw [Int32.lt_iff_toInt_lt] at h g
      have c : n.toInt = 0 ∨ n.toInt = 1 ∨ n.toInt = 2 ∨ n.toInt = 3 := by omega
      rcases c with c | c | c | c
      · exact Or.inl (e 0 c)
      · exact Or.inr (Or.inl (e 1 c))
      · exact Or.inr (Or.inr (Or.inl (e 2 c)))
      · exact Or.inr (Or.inr (Or.inr (e 3 c)))
    · exact Or.inr (Or.inl g)
theorem own_ge {n : Int32} (h : ¬ n < 4) : ¬ n < 1 ∧ ¬ n < 2 ∧ ¬ n < 3 := by
  have k1 : ((1 : Int32)).toInt = 1 := rfl
  have k2 : ((2 : Int32)).toInt = 2 := rfl
  have k3 : ((3 : Int32)).toInt = 3 := rfl
  have k4 : ((4 : Int32)).toInt = 4 := rfl
  rw [Int32.lt_iff_toInt_lt] at h
  rw [Int32.lt_iff_toInt_lt, Int32.lt_iff_toInt_lt, Int32.lt_iff_toInt_lt]
  omega

theorem own_len0 {Z : State} {args : Array Value} {t : Term} {a : Addr} {c : Cell} {ty : FieldType} (ev : t.eval args Z none [] Z = some (.ref a)) (A : Arr Z Z.heap a c ty) (h : (Cond.eq (.length t) (.int 0)).value args Z none Z [] = some true) : c.slots.size = 0 := by
  have e := own_eqv h (v := .int 0) rfl
  have q : Z.arrayAt? a = some c := Arr.fin (State.Warmed39.refl Z).alike A
  simp only [Term.eval, Option.bind_eq_bind, ev, Option.bind_some, q] at e
  by_cases hn : c.slots.size < 2147483648
  · rw [if_pos hn] at e
    have e2 : c.slots.size.toInt32 = (0 : Int32) := by simpa using e
    have e3 := congrArg Int32.toInt e2
    rw [show c.slots.size.toInt32.toInt = (c.slots.size : Int) from Int32.toInt_ofNat_of_lt (by omega)] at e3
    have k : (0 : Int32).toInt = 0 := rfl
    omega
  · rw [if_neg hn] at e
    cases e

theorem ef_rm12 (m : MethodId) (x : Int32) (y : Int32) : entryFrame m #[(.int x), (.int y)] 2 = mkF m 0 #[.val (.int x), .val (.int y)] [] := by first | (simp [entryFrame, mkF, argsToLocals, Value.category]; done) | rfl
def Qrm12 (Z : State) (x : Int32) (y : Int32) (h0 : Heap) (n0 : Nat) (v : Option Value) (h : Heap) (L : List Loc) : Prop := v = some (.int (own_imax x y)) ∧ Fr n0 L ∧ h = h0
def Prm12 (s : State) (Z : State) (x : Int32) (y : Int32) (h0 : Heap) (n0 : Nat) : State → Outcome → Prop := fun U' o => ∃ v L, o = .returned v ∧ Qrm12 Z x y h0 n0 v U'.heap L ∧ FrameEnd s o U' L ({ frames := 0, cells := 0, slots := 0, locals := 0 } : Room).cells ({ frames := 0, cells := 0, slots := 0, locals := 0 } : Room).slots
set_option maxRecDepth 65536 in
set_option maxHeartbeats 40000000 in
theorem rm12 (l : Launch) (Z : State) (a0 : Array Value) (hw : ∀ d ∈ tables_1, d.before a0 Z = true) (ws : List Jvm.Cond) (x : Int32) (y : Int32) (h0 : Heap) (n0 : Nat) (Z0 : n0 ≤ h0.size) :
    MetFree l (⟨"java/lang/Math", "max", "(II)I"⟩ : MethodName) (head1 (Jvm.Cond.code (⟨"java/lang/Math", "max", "(II)I"⟩ : MethodName) jdk_29_method_65_code 2 (some .int) :: ws) ({ frames := 0, cells := 0, slots := 0, locals := 0 } : Room)) (fun aa U => aa = #[(.int x), (.int y)] ∧ Z.Warmed39 U.vm ∧ U.heap = h0) (fun _ _ _ _ _ => True) (fun _ U o U' => ∃ v L, o = .returned v ∧ Qrm12 Z x y h0 n0 v U'.heap L ∧ FrameEnd U o U' L ({ frames := 0, cells := 0, slots := 0, locals := 0 } : Room).cells ({ frames := 0, cells := 0, slots := 0, locals := 0 } : Room).slots) := by
  refine MetFree.of_bodySF (Jvm.Free.JP.mathPlain rfl (by decide +kernel)) hisR ?_
  intro p e s m args below meth c s₁ Bd hml0 hP hK
  obtain ⟨rfl, hZ, hh⟩ := hP
  have hx := Bd.exec
  have hlk : meth.locks = false := by first | exact BodyLoose.notSynchronized Bd | exact Body.notSynchronized Bd
  have hby := Bd.bytes
  have hml : c.maxLocals = 2 := hml0
  have hown : s.vm.findClass "java/lang/Math" = some m.cls := findClass_of_methodNamed Bd.named
  have hnm := (name_of_methodNamed Bd.named Bd.method).1
  have X0 : Stand p l e ({ frames := 0, cells := 0, slots := 0, locals := 0 } : Room) s m #[(.int x), (.int y)] below meth c s₁ [] 0 0 := Stand.of_body Bd
  have e0 : s₁.heap = h0 := by rw [← hh, Bd.state]; rfl
  have N0 := Fr.nil n0
  show Done p e below (Prm12 s Z x y h0 n0) (s₁.setTop (entryFrame m #[(.int x), (.int y)] 2))
  refine Done.st (B := s₁.setTop (mkF m 0 #[.val (.int x), .val (.int y)] [])) (fun _ k => castTop (ef_rm12 m x y) k) ?_
  refine Done.st (B := s₁.setTop (mkF m 1 #[.val (.int x), .val (.int y)] [(.int x)])) (fun _ k => XS.iloadN X0.here hx rfl (hb hby d12_0) rfl k) ?_
  refine Done.st (B := s₁.setTop (mkF m 2 #[.val (.int x), .val (.int y)] [(.int y), (.int x)])) (fun _ k => XS.iloadN X0.here hx rfl (hb hby d12_1) rfl k) ?_
  by_cases hc2 : x < y
  · refine Done.st (B := s₁.setTop (mkF m 9 #[.val (.int x), .val (.int y)] [])) (fun _ k => XS.icmpYes X0.here hx rfl (pc0 := 2) (pc' := 9) rfl (hb hby d12_2) rfl (tlt hc2).1 (by decide) (by decide) k) ?_
    refine Done.st (B := s₁.setTop (mkF m 10 #[.val (.int x), .val (.int y)] [(.int y)])) (fun _ k => XS.iloadN X0.here hx rfl (hb hby d12_9) rfl k) ?_
    obtain ⟨fs, hr, hrun, hended, hW, hsame⟩ := X0.leave (v := some (.int y)) (hlocks := hlk) (fun h => by rw [Bd.returns] at h; cases h)
    refine Done.fin (retI X0 hx Bd.returns (hb hby d12_10) hr) hrun hended ⟨_, _, rfl, ?_, ⟨_, rfl⟩, hW, hsame.mono (by decide) (by decide)⟩
    show Qrm12 Z x y h0 n0 _ s₁.heap _
    rw [e0]
    exact ⟨by simp [own_imax, hc2], N0, rfl⟩
  · refine Done.st (B := s₁.setTop (mkF m 5 #[.val (.int x), .val (.int y)] [])) (fun _ k => XS.icmpNo X0.here hx rfl (hb hby d12_2) rfl (flt hc2).1 k) ?_
    refine Done.st (B := s₁.setTop (mkF m 6 #[.val (.int x), .val (.int y)] [(.int x)])) (fun _ k => XS.iloadN X0.here hx rfl (hb hby d12_5) rfl k) ?_
    refine Done.st (B := s₁.setTop (mkF m 10 #[.val (.int x), .val (.int y)] [(.int x)])) (fun _ k => XS.goto X0.here hx rfl (pc0 := 6) (pc' := 10) rfl (hb hby d12_6) (by decide) (by decide) k) ?_
    obtain ⟨fs, hr, hrun, hended, hW, hsame⟩ := X0.leave (v := some (.int x)) (hlocks := hlk) (fun h => by rw [Bd.returns] at h; cases h)
    refine Done.fin (retI X0 hx Bd.returns (hb hby d12_10) hr) hrun hended ⟨_, _, rfl, ?_, ⟨_, rfl⟩, hW, hsame.mono (by decide) (by decide)⟩
    show Qrm12 Z x y h0 n0 _ s₁.heap _
    rw [e0]
    exact ⟨by simp [own_imax, hc2], N0, rfl⟩
theorem ef_rm3 (m : MethodId) (a : Addr) : entryFrame m #[(.ref a)] 1 = mkF m 0 #[.val (.ref a)] [] := by first | (simp [entryFrame, mkF, argsToLocals, Value.category]; done) | rfl
def Qrm3 (Z : State) (a : Addr) (h0 : Heap) (n0 : Nat) (v : Option Value) (h : Heap) (L : List Loc) : Prop := v = none ∧ Fr n0 L ∧ h = h0
def Prm3 (s : State) (Z : State) (a : Addr) (h0 : Heap) (n0 : Nat) : State → Outcome → Prop := fun U' o => ∃ v L, o = .returned v ∧ Qrm3 Z a h0 n0 v U'.heap L ∧ FrameEnd s o U' L ({ frames := 1, cells := 0, slots := 0, locals := 12 } : Room).cells ({ frames := 1, cells := 0, slots := 0, locals := 12 } : Room).slots
set_option maxRecDepth 65536 in
set_option maxHeartbeats 40000000 in
theorem rm3 (l : Launch) (Z : State) (a0 : Array Value) (hw : ∀ d ∈ tables_1, d.before a0 Z = true) (ws : List Jvm.Cond) (a : Addr) (h0 : Heap) (n0 : Nat) (Z0 : n0 ≤ h0.size) :
    MetFree l (⟨"java/util/AbstractCollection", "<init>", "()V"⟩ : MethodName) (head1 (Jvm.Cond.code (⟨"java/util/AbstractCollection", "<init>", "()V"⟩ : MethodName) jdk_22_method_1_code 1 none :: ws) ({ frames := 1, cells := 0, slots := 0, locals := 12 } : Room)) (fun aa U => aa = #[(.ref a)] ∧ Z.Warmed39 U.vm ∧ U.heap = h0) (fun _ _ _ _ _ => True) (fun _ U o U' => ∃ v L, o = .returned v ∧ Qrm3 Z a h0 n0 v U'.heap L ∧ FrameEnd U o U' L ({ frames := 1, cells := 0, slots := 0, locals := 12 } : Room).cells ({ frames := 1, cells := 0, slots := 0, locals := 12 } : Room).slots) := by
  refine MetFree.of_bodySF (plainFor_of_name pn_0) hisR ?_
  intro p e s m args below meth c s₁ Bd hml0 hP hK
  obtain ⟨rfl, hZ, hh⟩ := hP
  have hx := Bd.exec
  have hlk : meth.locks = false := by first | exact BodyLoose.notSynchronized Bd | exact Body.notSynchronized Bd
  have hby := Bd.bytes
  have hml : c.maxLocals = 1 := hml0
  have hown : s.vm.findClass "java/util/AbstractCollection" = some m.cls := findClass_of_methodNamed Bd.named
  have hnm := (name_of_methodNamed Bd.named Bd.method).1
  have X0 : Stand p l e ({ frames := 1, cells := 0, slots := 0, locals := 12 } : Room) s m #[(.ref a)] below meth c s₁ [] 0 0 := Stand.of_body Bd
  have e0 : s₁.heap = h0 := by rw [← hh, Bd.state]; rfl
  have N0 := Fr.nil n0
  show Done p e below (Prm3 s Z a h0 n0) (s₁.setTop (entryFrame m #[(.ref a)] 1))
  refine Done.st (B := s₁.setTop (mkF m 0 #[.val (.ref a)] [])) (fun _ k => castTop (ef_rm3 m a) k) ?_
  refine Done.st (B := s₁.setTop (mkF m 1 #[.val (.ref a)] [(.ref a)])) (fun _ k => XS.aloadN X0.here hx rfl (hb hby d3_0) rfl rfl k) ?_
  obtain ⟨T1, X1, e1, st1⟩ := initO X0 hx hZ hown (hw _ (List.mem_of_getElem? (i := 19) rfl)) (hw _ (List.mem_of_getElem? (i := 20) rfl)) (hw _ (List.mem_of_getElem? (i := 21) rfl)) e0 (g := (mkF m 1 #[.val (.ref a)] [(.ref a)])) rfl (by rw [hml]; rfl) rfl (hb hby d3_1) (by decide) (W := 0) (by show 2 * 0 + _ ≤ _; exact Nat.le_of_eq rfl) (by decide)
  refine Done.st (B := T1.setTop (mkF m 4 #[.val (.ref a)] [])) (fun _ k => st1 _ k) ?_
  obtain ⟨fs, hr, hrun, hended, hW, hsame⟩ := X1.leave (v := none) (hlocks := hlk) (fun _ => rfl)
  refine Done.fin (X1.returnOut hx Bd.returns (hb hby d3_4) hr) hrun hended ⟨_, _, rfl, ?_, ⟨_, rfl⟩, hW, hsame.mono (by decide) (by decide)⟩
  show Qrm3 Z a h0 n0 _ T1.heap _
  rw [e1]
  exact ⟨rfl, N0, rfl⟩
theorem ef_rm2 (m : MethodId) (a : Addr) : entryFrame m #[(.ref a)] 1 = mkF m 0 #[.val (.ref a)] [] := by first | (simp [entryFrame, mkF, argsToLocals, Value.category]; done) | rfl
def Qrm2 (Z : State) (a : Addr) (h0 : Heap) (n0 : Nat) (v : Option Value) (h : Heap) (L : List Loc) : Prop := v = none ∧ Fr n0 L ∧ Keep h0 h [a] ∧ Exa Z h a "java/util/ArrayList" ∧ Fld Z h a "java/util/AbstractList" "modCount" "I" (.int (0 : Int32)) ∧ Fld Z h a "java/util/ArrayList" "elementData" "[Ljava/lang/Object;" .null ∧ Fld Z h a "java/util/ArrayList" "size" "I" (.int (0 : Int32))
def Prm2 (s : State) (Z : State) (a : Addr) (h0 : Heap) (n0 : Nat) : State → Outcome → Prop := fun U' o => ∃ v L, o = .returned v ∧ Qrm2 Z a h0 n0 v U'.heap L ∧ FrameEnd s o U' L ({ frames := 2, cells := 0, slots := 0, locals := 24 } : Room).cells ({ frames := 2, cells := 0, slots := 0, locals := 24 } : Room).slots
set_option maxRecDepth 65536 in
set_option maxHeartbeats 40000000 in
theorem rm2 (l : Launch) (Z : State) (a0 : Array Value) (hw : ∀ d ∈ tables_1, d.before a0 Z = true) (ws : List Jvm.Cond) (a : Addr) (h0 : Heap) (n0 : Nat) (Z0 : n0 ≤ h0.size) (Ea : Exa Z h0 a "java/util/ArrayList") (Fm : Fld Z h0 a "java/util/AbstractList" "modCount" "I" (.int (0 : Int32))) (Fe : Fld Z h0 a "java/util/ArrayList" "elementData" "[Ljava/lang/Object;" .null) (Fs : Fld Z h0 a "java/util/ArrayList" "size" "I" (.int (0 : Int32))) (ga : n0 ≤ a) :
    MetFree l (⟨"java/util/AbstractList", "<init>", "()V"⟩ : MethodName) (head1 (Jvm.Cond.code (⟨"java/util/AbstractList", "<init>", "()V"⟩ : MethodName) jdk_39_method_1_code 1 none :: ws) ({ frames := 2, cells := 0, slots := 0, locals := 24 } : Room)) (fun aa U => aa = #[(.ref a)] ∧ Z.Warmed39 U.vm ∧ U.heap = h0) (fun _ _ _ _ _ => True) (fun _ U o U' => ∃ v L, o = .returned v ∧ Qrm2 Z a h0 n0 v U'.heap L ∧ FrameEnd U o U' L ({ frames := 2, cells := 0, slots := 0, locals := 24 } : Room).cells ({ frames := 2, cells := 0, slots := 0, locals := 24 } : Room).slots) := by
  refine MetFree.of_bodySF (plainFor_of_name pn_1) hisR ?_
  intro p e s m args below meth c s₁ Bd hml0 hP hK
  obtain ⟨rfl, hZ, hh⟩ := hP
  have hx := Bd.exec
  have hlk : meth.locks = false := by first | exact BodyLoose.notSynchronized Bd | exact Body.notSynchronized Bd
  have hby := Bd.bytes
  have hml : c.maxLocals = 1 := hml0
  have hown : s.vm.findClass "java/util/AbstractList" = some m.cls := findClass_of_methodNamed Bd.named
  have hnm := (name_of_methodNamed Bd.named Bd.method).1
  have X0 : Stand p l e ({ frames := 2, cells := 0, slots := 0, locals := 24 } : Room) s m #[(.ref a)] below meth c s₁ [] 0 0 := Stand.of_body Bd
  have e0 : s₁.heap = h0 := by rw [← hh, Bd.state]; rfl
  have N0 := Fr.nil n0
  show Done p e below (Prm2 s Z a h0 n0) (s₁.setTop (entryFrame m #[(.ref a)] 1))
  refine Done.st (B := s₁.setTop (mkF m 0 #[.val (.ref a)] [])) (fun _ k => castTop (ef_rm2 m a) k) ?_
  refine Done.st (B := s₁.setTop (mkF m 1 #[.val (.ref a)] [(.ref a)])) (fun _ k => XS.aloadN X0.here hx rfl (hb hby d2_0) rfl rfl k) ?_
  obtain ⟨_, _, ⟨T1, L1, k1, n1⟩, -, X1, ⟨Lc1, hQ1, l1, y1, z1⟩, st1⟩ := X0.specialBack hx (y := (⟨"java/util/AbstractCollection", "<init>", "()V"⟩ : MethodName)) rfl hown (mvT hZ (hw _ (List.mem_of_getElem? (i := 13) rfl))) (mvT hZ (hw _ (List.mem_of_getElem? (i := 14) rfl))) (mvT hZ (hw _ (List.mem_of_getElem? (i := 18) rfl))) (by decide) (backOf (W := 0) (rm3 l Z a0 hw [] a h0 n0 Z0) hZ (hw _ (List.mem_of_getElem? (i := 18) rfl)) (hw _ (List.mem_of_getElem? (i := 17) rfl)) (by decide) (by decide)) (g := (mkF m 1 #[.val (.ref a)] [(.ref a)])) rfl (by rw [hml]; rfl) (Steps.refl _) (a := a) (argsL := []) (rest := []) (lenOf pd_0 rfl) rfl (by show 2 * 0 + _ ≤ _; exact Nat.le_of_eq rfl) (hb hby d2_1) (fun _ _ => ⟨rfl, e0, (by decide : 0 + 0 ≤ _), (by decide : 0 + 0 ≤ _)⟩)
  dsimp only [Pt.U, Pt.locs, Pt.cells, Pt.slots] at X1 l1 y1 z1 st1 hQ1
  subst l1 y1 z1
  obtain ⟨rfl, N1q, e1⟩ := hQ1
  have N1 := Fr.app N0 N1q
  refine Done.st (B := T1.setTop (mkF m 4 #[.val (.ref a)] [])) (fun _ k => st1.trans k) ?_
  refine Done.st (B := T1.setTop (mkF m 5 #[.val (.ref a)] [(.ref a)])) (fun _ k => XS.aloadN X1.here hx rfl (hb hby d2_4) rfl rfl k) ?_
  refine Done.st (B := T1.setTop (mkF m 6 #[.val (.ref a)] [(.int (0 : Int32)), (.ref a)])) (fun _ k => XS.iconst X1.here hx rfl (hb hby d2_5) k) ?_
  obtain ⟨T2, h2, X2, e2, W2, st2⟩ := putF X1 hx hZ hown (host := "") (Or.inl (hw _ (List.mem_of_getElem? (i := 22) rfl))) Via.refl e1 Fm Ea (Or.inl (hw _ (List.mem_of_getElem? (i := 23) rfl))) (hw _ (List.mem_of_getElem? (i := 2) rfl)) (ty := .int) (by decide) rfl rfl (g := (mkF m 6 #[.val (.ref a)] [(.int (0 : Int32)), (.ref a)])) rfl rfl (hb hby d2_6)
  have F2 := Fld.same W2 Fm
  have N2 := Fr.snoc X2 N1 ga
  have Z2 : n0 ≤ h2.size := Nat.le_trans Z0 (Keep.of_wr W2).1
  have KK2 : Keep h0 h2 [a] := ((Keep.refl h0 [a])).wr W2 (Or.inl (List.mem_of_getElem? (i := 0) rfl))
  refine Done.st (B := T2.setTop (mkF m 9 #[.val (.ref a)] [])) (fun _ k => st2 _ k) ?_
  obtain ⟨fs, hr, hrun, hended, hW, hsame⟩ := X2.leave (v := none) (hlocks := hlk) (fun _ => rfl)
  have c4 := (Exa.wr W2 Ea)
  have c5 := (Fld.other W2 Fe (Or.inr (slot_ne (Or.inl (hw _ (List.mem_of_getElem? (i := 26) rfl))) (Or.inl (hw _ (List.mem_of_getElem? (i := 23) rfl))) (by decide) (t := (.array (.object "java/lang/Object"))) (t' := .int) (by decide) (by decide))))
  have c6 := (Fld.other W2 Fs (Or.inr (slot_ne (Or.inl (hw _ (List.mem_of_getElem? (i := 44) rfl))) (Or.inl (hw _ (List.mem_of_getElem? (i := 23) rfl))) (by decide) (t := .int) (t' := .int) (by decide) (by decide))))
  refine Done.fin (X2.returnOut hx Bd.returns (hb hby d2_9) hr) hrun hended ⟨_, _, rfl, ?_, ⟨_, rfl⟩, hW, hsame.mono (by decide) (by decide)⟩
  show Qrm2 Z a h0 n0 _ T2.heap _
  rw [e2]
  exact ⟨rfl, N2, KK2, c4, F2, c5, c6⟩
theorem ef_rm1 (m : MethodId) (a : Addr) : entryFrame m #[(.ref a)] 1 = mkF m 0 #[.val (.ref a)] [] := by first | (simp [entryFrame, mkF, argsToLocals, Value.category]; done) | rfl
def Qrm1 (Z : State) (a : Addr) (w : Addr) (h0 : Heap) (n0 : Nat) (v : Option Value) (h : Heap) (L : List Loc) : Prop := v = none ∧ Fr n0 L ∧ Keep h0 h [a] ∧ Exa Z h a "java/util/ArrayList" ∧ Fld Z h a "java/util/AbstractList" "modCount" "I" (.int (0 : Int32)) ∧ Fld Z h a "java/util/ArrayList" "elementData" "[Ljava/lang/Object;" (.ref w) ∧ Fld Z h a "java/util/ArrayList" "size" "I" (.int (0 : Int32))
def Prm1 (s : State) (Z : State) (a : Addr) (w : Addr) (h0 : Heap) (n0 : Nat) : State → Outcome → Prop := fun U' o => ∃ v L, o = .returned v ∧ Qrm1 Z a w h0 n0 v U'.heap L ∧ FrameEnd s o U' L ({ frames := 3, cells := 0, slots := 0, locals := 36 } : Room).cells ({ frames := 3, cells := 0, slots := 0, locals := 36 } : Room).slots
set_option maxRecDepth 65536 in
set_option maxHeartbeats 40000000 in
theorem rm1 (l : Launch) (Z : State) (a0 : Array Value) (hw : ∀ d ∈ tables_1, d.before a0 Z = true) (ws : List Jvm.Cond) (a : Addr) (w : Addr) (h0 : Heap) (n0 : Nat) (Z0 : n0 ≤ h0.size) (Ea : Exa Z h0 a "java/util/ArrayList") (Fm : Fld Z h0 a "java/util/AbstractList" "modCount" "I" (.int (0 : Int32))) (Fe : Fld Z h0 a "java/util/ArrayList" "elementData" "[Ljava/lang/Object;" .null) (Fs : Fld Z h0 a "java/util/ArrayList" "size" "I" (.int (0 : Int32))) (ga : n0 ≤ a) (S_D : Sta Z h0 "java/util/ArrayList" "DEFAULTCAPACITY_EMPTY_ELEMENTDATA" "[Ljava/lang/Object;" (.ref w)) :
    MetFree l (⟨"java/util/ArrayList", "<init>", "()V"⟩ : MethodName) (head1 (Jvm.Cond.code (⟨"java/util/ArrayList", "<init>", "()V"⟩ : MethodName) jdk_38_method_2_code 1 none :: ws) ({ frames := 3, cells := 0, slots := 0, locals := 36 } : Room)) (fun aa U => aa = #[(.ref a)] ∧ Z.Warmed39 U.vm ∧ U.heap = h0) (fun _ _ _ _ _ => True) (fun _ U o U' => ∃ v L, o = .returned v ∧ Qrm1 Z a w h0 n0 v U'.heap L ∧ FrameEnd U o U' L ({ frames := 3, cells := 0, slots := 0, locals := 36 } : Room).cells ({ frames := 3, cells := 0, slots := 0, locals := 36 } : Room).slots) := by
  refine MetFree.of_bodySF (plainFor_of_name pn_2) hisR ?_
  intro p e s m args below meth c s₁ Bd hml0 hP hK
  obtain ⟨rfl, hZ, hh⟩ := hP
  have hx := Bd.exec
  have hlk : meth.locks = false := by first | exact BodyLoose.notSynchronized Bd | exact Body.notSynchronized Bd
  have hby := Bd.bytes
  have hml : c.maxLocals = 1 := hml0
  have hown : s.vm.findClass "java/util/ArrayList" = some m.cls := findClass_of_methodNamed Bd.named
  have hnm := (name_of_methodNamed Bd.named Bd.method).1
  have X0 : Stand p l e ({ frames := 3, cells := 0, slots := 0, locals := 36 } : Room) s m #[(.ref a)] below meth c s₁ [] 0 0 := Stand.of_body Bd
  have e0 : s₁.heap = h0 := by rw [← hh, Bd.state]; rfl
  have N0 := Fr.nil n0
  show Done p e below (Prm1 s Z a w h0 n0) (s₁.setTop (entryFrame m #[(.ref a)] 1))
  refine Done.st (B := s₁.setTop (mkF m 0 #[.val (.ref a)] [])) (fun _ k => castTop (ef_rm1 m a) k) ?_
  refine Done.st (B := s₁.setTop (mkF m 1 #[.val (.ref a)] [(.ref a)])) (fun _ k => XS.aloadN X0.here hx rfl (hb hby d1_0) rfl rfl k) ?_
  obtain ⟨_, _, ⟨T1, L1, k1, n1⟩, -, X1, ⟨Lc1, hQ1, l1, y1, z1⟩, st1⟩ := X0.specialBack hx (y := (⟨"java/util/AbstractList", "<init>", "()V"⟩ : MethodName)) rfl hown (mvT hZ (hw _ (List.mem_of_getElem? (i := 7) rfl))) (mvT hZ (hw _ (List.mem_of_getElem? (i := 8) rfl))) (mvT hZ (hw _ (List.mem_of_getElem? (i := 12) rfl))) (by decide) (backOf (W := 0) (rm2 l Z a0 hw [] a h0 n0 Z0 Ea Fm Fe Fs ga) hZ (hw _ (List.mem_of_getElem? (i := 12) rfl)) (hw _ (List.mem_of_getElem? (i := 11) rfl)) (by decide) (by decide)) (g := (mkF m 1 #[.val (.ref a)] [(.ref a)])) rfl (by rw [hml]; rfl) (Steps.refl _) (a := a) (argsL := []) (rest := []) (lenOf pd_0 rfl) rfl (by show 2 * 0 + _ ≤ _; exact Nat.le_of_eq rfl) (hb hby d1_1) (fun _ _ => ⟨rfl, e0, (by decide : 0 + 0 ≤ _), (by decide : 0 + 0 ≤ _)⟩)
  dsimp only [Pt.U, Pt.locs, Pt.cells, Pt.slots] at X1 l1 y1 z1 st1 hQ1
  subst l1 y1 z1
  obtain ⟨rfl, N1q, K1, f1_0, f1_1, f1_2, f1_3⟩ := hQ1
  have N1 := Fr.app N0 N1q
  have Z1 : n0 ≤ T1.heap.size := Nat.le_trans Z0 K1.1
  have KK1 : Keep h0 T1.heap [a] := ((Keep.refl h0 [a])).trans K1 (allS (Or.inl (List.mem_of_getElem? (i := 0) rfl)) all0)
  refine Done.st (B := T1.setTop (mkF m 4 #[.val (.ref a)] [])) (fun _ k => st1.trans k) ?_
  refine Done.st (B := T1.setTop (mkF m 5 #[.val (.ref a)] [(.ref a)])) (fun _ k => XS.aloadN X1.here hx rfl (hb hby d1_4) rfl rfl k) ?_
  have c3 := (own_sta_keep S_D K1 (allS (own_ns_exa Ea) all0))
  obtain ⟨T2, X2, e2, st2⟩ := getS2 X1 hx hZ hown (host := "") (Or.inl (hw _ (List.mem_of_getElem? (i := 24) rfl))) Via.refl rfl c3 (g := (mkF m 5 #[.val (.ref a)] [(.ref a)])) rfl (hb hby d1_5)
  refine Done.st (B := T2.setTop (mkF m 8 #[.val (.ref a)] [(.ref w), (.ref a)])) (fun _ k => st2 _ k) ?_
  obtain ⟨T4, h4, X4, e4, W4, st4⟩ := putF X2 hx hZ hown (host := "") (Or.inl (hw _ (List.mem_of_getElem? (i := 25) rfl))) Via.refl e2 f1_2 f1_0 (Or.inl (hw _ (List.mem_of_getElem? (i := 26) rfl))) (hw _ (List.mem_of_getElem? (i := 2) rfl)) (ty := (.array (.object "java/lang/Object"))) (by decide) rfl rfl (g := (mkF m 8 #[.val (.ref a)] [(.ref w), (.ref a)])) rfl rfl (hb hby d1_8)
  have F4 := Fld.same W4 f1_2
  have N4 := Fr.snoc X4 N1 ga
  have Z4 : n0 ≤ h4.size := Nat.le_trans Z1 (Keep.of_wr W4).1
  have KK4 : Keep h0 h4 [a] := (KK1).wr W4 (Or.inl (List.mem_of_getElem? (i := 0) rfl))
  refine Done.st (B := T4.setTop (mkF m 11 #[.val (.ref a)] [])) (fun _ k => st4 _ k) ?_
  obtain ⟨fs, hr, hrun, hended, hW, hsame⟩ := X4.leave (v := none) (hlocks := hlk) (fun _ => rfl)
  have c6 := (Exa.wr W4 f1_0)
  have c7 := (Fld.other W4 f1_1 (Or.inr (slot_ne (Or.inl (hw _ (List.mem_of_getElem? (i := 23) rfl))) (Or.inl (hw _ (List.mem_of_getElem? (i := 26) rfl))) (by decide) (t := .int) (t' := (.array (.object "java/lang/Object"))) (by decide) (by decide))))
  have c8 := (Fld.other W4 f1_3 (Or.inr (slot_ne (Or.inl (hw _ (List.mem_of_getElem? (i := 44) rfl))) (Or.inl (hw _ (List.mem_of_getElem? (i := 26) rfl))) (by decide) (t := .int) (t' := (.array (.object "java/lang/Object"))) (by decide) (by decide))))
  refine Done.fin (X4.returnOut hx Bd.returns (hb hby d1_11) hr) hrun hended ⟨_, _, rfl, ?_, ⟨_, rfl⟩, hW, hsame.mono (by decide) (by decide)⟩
  show Qrm1 Z a w h0 n0 _ T4.heap _
  rw [e4]
  exact ⟨rfl, N4, KK4, c6, c7, F4, c8⟩
theorem ef_rm11 (m : MethodId) (a : Addr) : entryFrame m #[(.ref a), (.int (1 : Int32))] 4 = mkF m 0 #[.val (.ref a), .val (.int (1 : Int32)), .unset, .unset] [] := by first | (simp [entryFrame, mkF, argsToLocals, Value.category]; done) | rfl
def Qrm11 (Z : State) (a : Addr) (mc : Int32) (w : Addr) (kw : ClassId) (h0 : Heap) (n0 : Nat) (v : Option Value) (h : Heap) (L : List Loc) : Prop := ∃ (b : Addr) (kb : ClassId), v = some (.ref b) ∧ Fr n0 L ∧ h0.size ≤ b ∧ Keep h0 h [a] ∧ Ovr Z kb "java/lang/Object" ∧ Exa Z h a "java/util/ArrayList" ∧ Fld Z h a "java/util/AbstractList" "modCount" "I" (.int mc) ∧ Fld Z h a "java/util/ArrayList" "elementData" "[Ljava/lang/Object;" (.ref b) ∧ Fld Z h a "java/util/ArrayList" "size" "I" (.int (0 : Int32)) ∧ Arv Z h b kb (.object "java/lang/Object") (10 : Int32) [.null, .null, .null, .null, .null, .null, .null, .null, .null, .null] .null
def Prm11 (s : State) (Z : State) (a : Addr) (mc : Int32) (w : Addr) (kw : ClassId) (h0 : Heap) (n0 : Nat) : State → Outcome → Prop := fun U' o => ∃ v L, o = .returned v ∧ Qrm11 Z a mc w kw h0 n0 v U'.heap L ∧ FrameEnd s o U' L ({ frames := 1, cells := 1, slots := 10, locals := 14 } : Room).cells ({ frames := 1, cells := 1, slots := 10, locals := 14 } : Room).slots
set_option maxRecDepth 65536 in
set_option maxHeartbeats 40000000 in
theorem rm11 (l : Launch) (Z : State) (a0 : Array Value) (hw : ∀ d ∈ tables_1, d.before a0 Z = true) (ws : List Jvm.Cond) (a : Addr) (mc : Int32) (w : Addr) (kw : ClassId) (h0 : Heap) (n0 : Nat) (Z0 : n0 ≤ h0.size) (Ea : Exa Z h0 a "java/util/ArrayList") (Fm : Fld Z h0 a "java/util/AbstractList" "modCount" "I" (.int mc)) (Fe : Fld Z h0 a "java/util/ArrayList" "elementData" "[Ljava/lang/Object;" (.ref w)) (Fs : Fld Z h0 a "java/util/ArrayList" "size" "I" (.int (0 : Int32))) (ga : n0 ≤ a) (S_D : Sta Z h0 "java/util/ArrayList" "DEFAULTCAPACITY_EMPTY_ELEMENTDATA" "[Ljava/lang/Object;" (.ref w)) (V_w : Arv Z h0 w kw (.object "java/lang/Object") (0 : Int32) [] .null) (naw : a ≠ w) :
    MetFree l (⟨"java/util/ArrayList", "grow", "(I)[Ljava/lang/Object;"⟩ : MethodName) (head1 (Jvm.Cond.code (⟨"java/util/ArrayList", "grow", "(I)[Ljava/lang/Object;"⟩ : MethodName) jdk_38_method_6_code 4 (some (.array (.object "java/lang/Object"))) :: ws) ({ frames := 1, cells := 1, slots := 10, locals := 14 } : Room)) (fun aa U => aa = #[(.ref a), (.int (1 : Int32))] ∧ Z.Warmed39 U.vm ∧ U.heap = h0) (fun _ _ _ _ _ => True) (fun _ U o U' => ∃ v L, o = .returned v ∧ Qrm11 Z a mc w kw h0 n0 v U'.heap L ∧ FrameEnd U o U' L ({ frames := 1, cells := 1, slots := 10, locals := 14 } : Room).cells ({ frames := 1, cells := 1, slots := 10, locals := 14 } : Room).slots) := by
  refine MetFree.of_bodySF (plainFor_of_name pn_2) hisR ?_
  intro p e s m args below meth c s₁ Bd hml0 hP hK
  obtain ⟨rfl, hZ, hh⟩ := hP
  have hx := Bd.exec
  have hlk : meth.locks = false := by first | exact BodyLoose.notSynchronized Bd | exact Body.notSynchronized Bd
  have hby := Bd.bytes
  have hml : c.maxLocals = 4 := hml0
  have hown : s.vm.findClass "java/util/ArrayList" = some m.cls := findClass_of_methodNamed Bd.named
  have hnm := (name_of_methodNamed Bd.named Bd.method).1
  have X0 : Stand p l e ({ frames := 1, cells := 1, slots := 10, locals := 14 } : Room) s m #[(.ref a), (.int (1 : Int32))] below meth c s₁ [] 0 0 := Stand.of_body Bd
  have e0 : s₁.heap = h0 := by rw [← hh, Bd.state]; rfl
  have N0 := Fr.nil n0
  show Done p e below (Prm11 s Z a mc w kw h0 n0) (s₁.setTop (entryFrame m #[(.ref a), (.int (1 : Int32))] 4))
  refine Done.st (B := s₁.setTop (mkF m 0 #[.val (.ref a), .val (.int (1 : Int32)), .unset, .unset] [])) (fun _ k => castTop (ef_rm11 m a) k) ?_
  refine Done.st (B := s₁.setTop (mkF m 1 #[.val (.ref a), .val (.int (1 : Int32)), .unset, .unset] [(.ref a)])) (fun _ k => XS.aloadN X0.here hx rfl (hb hby d11_0) rfl rfl k) ?_
  obtain ⟨T1, X1, e1, st1⟩ := getF X0 hx hZ hown (host := "") (Or.inl (hw _ (List.mem_of_getElem? (i := 25) rfl))) Via.refl e0 Fe (g := (mkF m 1 #[.val (.ref a), .val (.int (1 : Int32)), .unset, .unset] [(.ref a)])) rfl rfl (hb hby d11_1)
  refine Done.st (B := T1.setTop (mkF m 4 #[.val (.ref a), .val (.int (1 : Int32)), .unset, .unset] [(.ref w)])) (fun _ k => st1 _ k) ?_
  obtain ⟨cl2, Ar2, q2, S2, M2, -⟩ := id V_w
  refine Done.st (B := T1.setTop (mkF m 5 #[.val (.ref a), .val (.int (1 : Int32)), .unset, .unset] [(.int (0 : Int32))])) (fun _ k => X1.arraylength hx (by rw [e1]; exact Ar2.1) (State.isArrayOf_alike hZ.alike Ar2.2.1) (g := (mkF m 4 #[.val (.ref a), .val (.int (1 : Int32)), .unset, .unset] [(.ref w)])) rfl rfl (hb hby d11_4) _ (by rw [len_of S2 M2]; exact k)) ?_
  refine Done.st (B := T1.setTop (mkF m 6 #[.val (.ref a), .val (.int (1 : Int32)), .val (.int (0 : Int32)), .unset] [])) (fun _ k => XS.istoreN X1.here hx rfl (hb hby d11_5) rfl (l' := #[.val (.ref a), .val (.int (1 : Int32)), .val (.int (0 : Int32)), .unset]) rfl k) ?_
  refine Done.st (B := T1.setTop (mkF m 7 #[.val (.ref a), .val (.int (1 : Int32)), .val (.int (0 : Int32)), .unset] [(.int (0 : Int32))])) (fun _ k => XS.iloadN X1.here hx rfl (hb hby d11_6) rfl k) ?_
  refine Done.st (B := T1.setTop (mkF m 10 #[.val (.ref a), .val (.int (1 : Int32)), .val (.int (0 : Int32)), .unset] [])) (fun _ k => XS.ifNo X1.here hx rfl (hb hby d11_7) rfl ((if0 _ _).trans (flt (by decide : ¬ ((0 : Int32) < (0 : Int32)))).2.2.1) k) ?_
  refine Done.st (B := T1.setTop (mkF m 11 #[.val (.ref a), .val (.int (1 : Int32)), .val (.int (0 : Int32)), .unset] [(.ref a)])) (fun _ k => XS.aloadN X1.here hx rfl (hb hby d11_10) rfl rfl k) ?_
  obtain ⟨T3, X3, e3, st3⟩ := getF X1 hx hZ hown (host := "") (Or.inl (hw _ (List.mem_of_getElem? (i := 25) rfl))) Via.refl e1 Fe (g := (mkF m 11 #[.val (.ref a), .val (.int (1 : Int32)), .val (.int (0 : Int32)), .unset] [(.ref a)])) rfl rfl (hb hby d11_11)
  refine Done.st (B := T3.setTop (mkF m 14 #[.val (.ref a), .val (.int (1 : Int32)), .val (.int (0 : Int32)), .unset] [(.ref w)])) (fun _ k => st3 _ k) ?_
  obtain ⟨T4, X4, e4, st4⟩ := getS2 X3 hx hZ hown (host := "") (Or.inl (hw _ (List.mem_of_getElem? (i := 24) rfl))) Via.refl e3 S_D (g := (mkF m 14 #[.val (.ref a), .val (.int (1 : Int32)), .val (.int (0 : Int32)), .unset] [(.ref w)])) rfl (hb hby d11_14)
  refine Done.st (B := T4.setTop (mkF m 17 #[.val (.ref a), .val (.int (1 : Int32)), .val (.int (0 : Int32)), .unset] [(.ref w), (.ref w)])) (fun _ k => st4 _ k) ?_
  refine Done.st (B := T4.setTop (mkF m 45 #[.val (.ref a), .val (.int (1 : Int32)), .val (.int (0 : Int32)), .unset] [])) (fun _ k => Jvm.RoadKit.acmp (g := (mkF m 17 #[.val (.ref a), .val (.int (1 : Int32)), .val (.int (0 : Int32)), .unset] [(.ref w), (.ref w)])) X4 hx rfl rfl rfl (pc0 := 17) (pc' := 45) (same := true) rfl (hb hby d11_17) rfl (decide_eq_true rfl) (by decide) (by decide) k) ?_
  refine Done.st (B := T4.setTop (mkF m 46 #[.val (.ref a), .val (.int (1 : Int32)), .val (.int (0 : Int32)), .unset] [(.ref a)])) (fun _ k => XS.aloadN X4.here hx rfl (hb hby d11_45) rfl rfl k) ?_
  refine Done.st (B := T4.setTop (mkF m 48 #[.val (.ref a), .val (.int (1 : Int32)), .val (.int (0 : Int32)), .unset] [(.int (10 : Int32)), (.ref a)])) (fun _ k => XS.bipush X4.here hx rfl (hb hby d11_46) k) ?_
  refine Done.st (B := T4.setTop (mkF m 49 #[.val (.ref a), .val (.int (1 : Int32)), .val (.int (0 : Int32)), .unset] [(.int (1 : Int32)), (.int (10 : Int32)), (.ref a)])) (fun _ k => XS.iloadN X4.here hx rfl (hb hby d11_48) rfl k) ?_
  obtain ⟨_, _, ⟨T5, L5, k5, n5⟩, -, X5, ⟨Lc5, hQ5, l5, y5, z5⟩, st5⟩ := Jvm.LawKit.callS X4 hx (y := (⟨"java/lang/Math", "max", "(II)I"⟩ : MethodName)) hown (mvT hZ (hw _ (List.mem_of_getElem? (i := 76) rfl))) (mvT hZ (hw _ (List.mem_of_getElem? (i := 77) rfl))) (mvT hZ (hw _ (List.mem_of_getElem? (i := 78) rfl))) (mvT hZ (hw _ (List.mem_of_getElem? (i := 79) rfl))) (by decide) (backOf (W := 1) (rm12 l Z a0 hw [] (10 : Int32) (1 : Int32) h0 n0 Z0) hZ (hw _ (List.mem_of_getElem? (i := 79) rfl)) (hw _ (List.mem_of_getElem? (i := 78) rfl)) (by decide) (by decide)) (g := (mkF m 49 #[.val (.ref a), .val (.int (1 : Int32)), .val (.int (0 : Int32)), .unset] [(.int (1 : Int32)), (.int (10 : Int32)), (.ref a)])) rfl (by rw [hml]; rfl) (argsL := [(.int (10 : Int32)), (.int (1 : Int32))]) (rest := [(.ref a)]) (lenOf pd_1 rfl) rfl (by show 2 * 0 + _ ≤ _; exact Nat.le_of_eq rfl) (hb hby d11_49) (fun _ _ => ⟨rfl, e4, (by decide : 0 + 0 ≤ _), (by decide : 0 + 0 ≤ _)⟩)
  dsimp only [Pt.U, Pt.locs, Pt.cells, Pt.slots] at X5 l5 y5 z5 st5 hQ5
  subst l5 y5 z5
  obtain ⟨hv5, N5q, e5⟩ := hQ5
  rw [show own_imax (10 : Int32) (1 : Int32) = (10 : Int32) from by decide] at hv5
  subst hv5
  have N5 := Fr.app N0 N5q
  refine Done.st (B := T5.setTop (mkF m 52 #[.val (.ref a), .val (.int (1 : Int32)), .val (.int (0 : Int32)), .unset] [(.int (10 : Int32)), (.ref a)])) (fun _ k => st5 _ k) ?_
  obtain ⟨T6, h6, k6, X6, e6, E6, A6, O6, st6⟩ := newR X5 hx hZ hown (hw _ (List.mem_of_getElem? (i := 80) rfl)) (hw _ (List.mem_of_getElem? (i := 81) rfl)) e5 (g := (mkF m 52 #[.val (.ref a), .val (.int (1 : Int32)), .val (.int (0 : Int32)), .unset] [(.int (10 : Int32)), (.ref a)])) rfl (hb hby d11_52) rfl (by decide) (cap := 10) (by decide) (by decide) (by decide) (by decide)
  obtain ⟨b6, g6⟩ : ∃ z, z = h0.size := ⟨_, rfl⟩
  rw [← g6] at A6 st6
  have ne_a_b6 : a ≠ b6 := Nat.ne_of_lt (Nat.lt_of_lt_of_le Ea.lt (Nat.le_of_eq g6.symm))
  have ne_w_b6 : w ≠ b6 := Nat.ne_of_lt (Nat.lt_of_lt_of_le V_w.lt (Nat.le_of_eq g6.symm))
  have ge_b6 : n0 ≤ b6 := Nat.le_trans Z0 (Nat.le_of_eq g6.symm)
  have sz_b6 : h0.size ≤ b6 := Nat.le_trans ((Keep.refl h0 [a])).1 (Nat.le_of_eq g6.symm)
  have Z6 : n0 ≤ h6.size := Nat.le_trans Z0 E6.1
  have V6 : Arv Z h6 b6 k6 (.object "java/lang/Object") (10 : Int32) [.null, .null, .null, .null, .null, .null, .null, .null, .null, .null] .null := (Arv.new A6 (by decide)).pad (pad_rep [] .null 10)
  have KK6 : Keep h0 h6 [a] := ((Keep.refl h0 [a])).ext E6
  refine Done.st (B := T6.setTop (mkF m 55 #[.val (.ref a), .val (.int (1 : Int32)), .val (.int (0 : Int32)), .unset] [(.ref b6), (.ref a)])) (fun _ k => st6 _ k) ?_
  refine Done.st (B := T6.setTop (mkF m 56 #[.val (.ref a), .val (.int (1 : Int32)), .val (.int (0 : Int32)), .unset] [(.ref b6), (.ref a), (.ref b6)])) (fun _ k => XS.dupX1 X6.here hx rfl (hb hby d11_55) rfl rfl rfl k) ?_
  have c7 := (Exa.ext E6 Ea)
  have c8 := (Fld.ext E6 Fe)
  obtain ⟨T9, h9, X9, e9, W9, st9⟩ := putF X6 hx hZ hown (host := "") (Or.inl (hw _ (List.mem_of_getElem? (i := 25) rfl))) Via.refl e6 c8 c7 (Or.inl (hw _ (List.mem_of_getElem? (i := 26) rfl))) (hw _ (List.mem_of_getElem? (i := 2) rfl)) (ty := (.array (.object "java/lang/Object"))) (by decide) rfl rfl (g := (mkF m 56 #[.val (.ref a), .val (.int (1 : Int32)), .val (.int (0 : Int32)), .unset] [(.ref b6), (.ref a), (.ref b6)])) rfl rfl (hb hby d11_56)
  have F9 := Fld.same W9 c8
  have N9 := Fr.snoc X9 N5 ga
  have Z9 : n0 ≤ h9.size := Nat.le_trans Z6 (Keep.of_wr W9).1
  have KK9 : Keep h0 h9 [a] := (KK6).wr W9 (Or.inl (List.mem_of_getElem? (i := 0) rfl))
  refine Done.st (B := T9.setTop (mkF m 59 #[.val (.ref a), .val (.int (1 : Int32)), .val (.int (0 : Int32)), .unset] [(.ref b6)])) (fun _ k => st9 _ k) ?_
  obtain ⟨fs, hr, hrun, hended, hW, hsame⟩ := X9.leave (v := some (.ref b6)) (hlocks := hlk) (fun h => by rw [Bd.returns] at h; cases h)
  have c11 := (Exa.wr W9 c7)
  have c12 := (Fld.other W9 (Fld.ext E6 Fm) (Or.inr (slot_ne (Or.inl (hw _ (List.mem_of_getElem? (i := 23) rfl))) (Or.inl (hw _ (List.mem_of_getElem? (i := 26) rfl))) (by decide) (t := .int) (t' := (.array (.object "java/lang/Object"))) (by decide) (by decide))))
  have c13 := (Fld.other W9 (Fld.ext E6 Fs) (Or.inr (slot_ne (Or.inl (hw _ (List.mem_of_getElem? (i := 44) rfl))) (Or.inl (hw _ (List.mem_of_getElem? (i := 26) rfl))) (by decide) (t := .int) (t' := (.array (.object "java/lang/Object"))) (by decide) (by decide))))
  have c14 := (V6.other W9 (Ne.symm ne_a_b6))
  refine Done.fin (retR X9 hx Bd.returns rfl rfl (hb hby d11_59) hr) hrun hended ⟨_, _, rfl, ?_, ⟨_, rfl⟩, hW, hsame.mono (by decide) (by decide)⟩
  show Qrm11 Z a mc w kw h0 n0 _ T9.heap _
  rw [e9]
  exact ⟨b6, _, rfl, N9, sz_b6, KK9, O6, c11, c12, F9, c13, c14⟩
theorem ef_rm10 (m : MethodId) (a : Addr) : entryFrame m #[(.ref a)] 1 = mkF m 0 #[.val (.ref a)] [] := by first | (simp [entryFrame, mkF, argsToLocals, Value.category]; done) | rfl
def Qrm10 (Z : State) (a : Addr) (mc : Int32) (w : Addr) (kw : ClassId) (h0 : Heap) (n0 : Nat) (v : Option Value) (h : Heap) (L : List Loc) : Prop := ∃ (b : Addr) (kb : ClassId), v = some (.ref b) ∧ Fr n0 L ∧ h0.size ≤ b ∧ Keep h0 h [a] ∧ Ovr Z kb "java/lang/Object" ∧ Exa Z h a "java/util/ArrayList" ∧ Fld Z h a "java/util/AbstractList" "modCount" "I" (.int mc) ∧ Fld Z h a "java/util/ArrayList" "elementData" "[Ljava/lang/Object;" (.ref b) ∧ Fld Z h a "java/util/ArrayList" "size" "I" (.int (0 : Int32)) ∧ Arv Z h b kb (.object "java/lang/Object") (10 : Int32) [.null, .null, .null, .null, .null, .null, .null, .null, .null, .null] .null
def Prm10 (s : State) (Z : State) (a : Addr) (mc : Int32) (w : Addr) (kw : ClassId) (h0 : Heap) (n0 : Nat) : State → Outcome → Prop := fun U' o => ∃ v L, o = .returned v ∧ Qrm10 Z a mc w kw h0 n0 v U'.heap L ∧ FrameEnd s o U' L ({ frames := 2, cells := 1, slots := 10, locals := 29 } : Room).cells ({ frames := 2, cells := 1, slots := 10, locals := 29 } : Room).slots
set_option maxRecDepth 65536 in
set_option maxHeartbeats 40000000 in
theorem rm10 (l : Launch) (Z : State) (a0 : Array Value) (hw : ∀ d ∈ tables_1, d.before a0 Z = true) (ws : List Jvm.Cond) (a : Addr) (mc : Int32) (w : Addr) (kw : ClassId) (h0 : Heap) (n0 : Nat) (Z0 : n0 ≤ h0.size) (Ea : Exa Z h0 a "java/util/ArrayList") (Fm : Fld Z h0 a "java/util/AbstractList" "modCount" "I" (.int mc)) (Fe : Fld Z h0 a "java/util/ArrayList" "elementData" "[Ljava/lang/Object;" (.ref w)) (Fs : Fld Z h0 a "java/util/ArrayList" "size" "I" (.int (0 : Int32))) (ga : n0 ≤ a) (S_D : Sta Z h0 "java/util/ArrayList" "DEFAULTCAPACITY_EMPTY_ELEMENTDATA" "[Ljava/lang/Object;" (.ref w)) (V_w : Arv Z h0 w kw (.object "java/lang/Object") (0 : Int32) [] .null) (naw : a ≠ w) :
    MetFree l (⟨"java/util/ArrayList", "grow", "()[Ljava/lang/Object;"⟩ : MethodName) (head1 (Jvm.Cond.code (⟨"java/util/ArrayList", "grow", "()[Ljava/lang/Object;"⟩ : MethodName) jdk_38_method_7_code 1 (some (.array (.object "java/lang/Object"))) :: ws) ({ frames := 2, cells := 1, slots := 10, locals := 29 } : Room)) (fun aa U => aa = #[(.ref a)] ∧ Z.Warmed39 U.vm ∧ U.heap = h0) (fun _ _ _ _ _ => True) (fun _ U o U' => ∃ v L, o = .returned v ∧ Qrm10 Z a mc w kw h0 n0 v U'.heap L ∧ FrameEnd U o U' L ({ frames := 2, cells := 1, slots := 10, locals := 29 } : Room).cells ({ frames := 2, cells := 1, slots := 10, locals := 29 } : Room).slots) := by
  refine MetFree.of_bodySF (plainFor_of_name pn_2) hisR ?_
  intro p e s m args below meth c s₁ Bd hml0 hP hK
  obtain ⟨rfl, hZ, hh⟩ := hP
  have hx := Bd.exec
  have hlk : meth.locks = false := by first | exact BodyLoose.notSynchronized Bd | exact Body.notSynchronized Bd
  have hby := Bd.bytes
  have hml : c.maxLocals = 1 := hml0
  have hown : s.vm.findClass "java/util/ArrayList" = some m.cls := findClass_of_methodNamed Bd.named
  have hnm := (name_of_methodNamed Bd.named Bd.method).1
  have X0 : Stand p l e ({ frames := 2, cells := 1, slots := 10, locals := 29 } : Room) s m #[(.ref a)] below meth c s₁ [] 0 0 := Stand.of_body Bd
  have e0 : s₁.heap = h0 := by rw [← hh, Bd.state]; rfl
  have N0 := Fr.nil n0
  show Done p e below (Prm10 s Z a mc w kw h0 n0) (s₁.setTop (entryFrame m #[(.ref a)] 1))
  refine Done.st (B := s₁.setTop (mkF m 0 #[.val (.ref a)] [])) (fun _ k => castTop (ef_rm10 m a) k) ?_
  refine Done.st (B := s₁.setTop (mkF m 1 #[.val (.ref a)] [(.ref a)])) (fun _ k => XS.aloadN X0.here hx rfl (hb hby d10_0) rfl rfl k) ?_
  refine Done.st (B := s₁.setTop (mkF m 2 #[.val (.ref a)] [(.ref a), (.ref a)])) (fun _ k => XS.aloadN X0.here hx rfl (hb hby d10_1) rfl rfl k) ?_
  obtain ⟨T1, X1, e1, st1⟩ := getF X0 hx hZ hown (host := "") (Or.inl (hw _ (List.mem_of_getElem? (i := 43) rfl))) Via.refl e0 Fs (g := (mkF m 2 #[.val (.ref a)] [(.ref a), (.ref a)])) rfl rfl (hb hby d10_2)
  refine Done.st (B := T1.setTop (mkF m 5 #[.val (.ref a)] [(.int (0 : Int32)), (.ref a)])) (fun _ k => st1 _ k) ?_
  refine Done.st (B := T1.setTop (mkF m 6 #[.val (.ref a)] [(.int (1 : Int32)), (.int (0 : Int32)), (.ref a)])) (fun _ k => XS.iconst X1.here hx rfl (hb hby d10_5) k) ?_
  refine Done.st (B := T1.setTop (mkF m 7 #[.val (.ref a)] [(.int (1 : Int32)), (.ref a)])) (fun _ k => XS.iadd X1.here hx rfl (hb hby d10_6) rfl k) ?_
  obtain ⟨cq2, q2, q2'⟩ := Ea.cell
  obtain ⟨_, _, ⟨T2, L2, k2, n2⟩, -, X2, ⟨Lc2, hQ2, l2, y2, z2⟩, st2⟩ := X1.privateBack hx (y := (⟨"java/util/ArrayList", "grow", "(I)[Ljava/lang/Object;"⟩ : MethodName)) hown (mvT hZ (hw _ (List.mem_of_getElem? (i := 71) rfl))) (mvT hZ (hw _ (List.mem_of_getElem? (i := 72) rfl))) (mvT hZ (hw _ (List.mem_of_getElem? (i := 74) rfl))) (Cond.privateMethod_at (mvP hZ (hw _ (List.mem_of_getElem? (i := 73) rfl)) (args := #[]))) (mvT hZ (hw _ (List.mem_of_getElem? (i := 75) rfl))) (by decide) (backOf (W := 0) (rm11 l Z a0 hw [] a  mc w kw h0 n0 Z0 Ea Fm Fe Fs ga S_D V_w naw) hZ (hw _ (List.mem_of_getElem? (i := 75) rfl)) (hw _ (List.mem_of_getElem? (i := 3) rfl)) (by decide) (by decide)) (g := (mkF m 7 #[.val (.ref a)] [(.int (1 : Int32)), (.ref a)])) rfl (by rw [hml]; rfl) (Steps.refl _) (a := a) (by rw [e1]; exact q2) q2' (argsL := [(.int (1 : Int32))]) (rest := []) (lenOf pd_2 rfl) rfl (by show 2 * 0 + _ ≤ _; exact Nat.le_of_eq rfl) (hb hby d10_7) (fun _ _ => ⟨rfl, e1, (by decide : 0 + 1 ≤ _), (by decide : 0 + 10 ≤ _)⟩)
  dsimp only [Pt.U, Pt.locs, Pt.cells, Pt.slots] at X2 l2 y2 z2 st2 hQ2
  subst l2 y2 z2
  obtain ⟨g, kg, rfl, N2q, sz2, K2, O_g, f2_1, f2_2, f2_3, f2_4, f2_5⟩ := hQ2
  have N2 := Fr.app N0 N2q
  have ne_a_g : a ≠ g := Nat.ne_of_lt (Nat.lt_of_lt_of_le Ea.lt sz2)
  have ne_w_g : w ≠ g := Nat.ne_of_lt (Nat.lt_of_lt_of_le V_w.lt sz2)
  have ge_g : n0 ≤ g := Nat.le_trans Z0 sz2
  have sz_g : h0.size ≤ g := Nat.le_trans ((Keep.refl h0 [a])).1 sz2
  have Z2 : n0 ≤ T2.heap.size := Nat.le_trans Z0 K2.1
  have KK2 : Keep h0 T2.heap [a] := ((Keep.refl h0 [a])).trans K2 (allS (Or.inl (List.mem_of_getElem? (i := 0) rfl)) all0)
  refine Done.st (B := T2.setTop (mkF m 10 #[.val (.ref a)] [(.ref g)])) (fun _ k => st2.trans k) ?_
  obtain ⟨fs, hr, hrun, hended, hW, hsame⟩ := X2.leave (v := some (.ref g)) (hlocks := hlk) (fun h => by rw [Bd.returns] at h; cases h)
  refine Done.fin (retR X2 hx Bd.returns rfl rfl (hb hby d10_10) hr) hrun hended ⟨_, _, rfl, ?_, ⟨_, rfl⟩, hW, hsame.mono (by decide) (by decide)⟩
  show Qrm10 Z a mc w kw h0 n0 _ T2.heap _
  exact ⟨g, _, rfl, N2, sz_g, KK2, O_g, f2_1, f2_2, f2_3, f2_4, f2_5⟩
theorem ef_rmA3_0 (m : MethodId) (a : Addr) (el : Addr) (w : Addr) : entryFrame m #[(.ref a), (.ref el), (.ref w), (.int (0 : Int32))] 4 = mkF m 0 #[.val (.ref a), .val (.ref el), .val (.ref w), .val (.int (0 : Int32))] [] := by first | (simp [entryFrame, mkF, argsToLocals, Value.category]; done) | rfl
def QrmA3_0 (Z : State) (a : Addr) (el : Addr) (w : Addr) (mc : Int32) (kw : ClassId) (h0 : Heap) (n0 : Nat) (v : Option Value) (h : Heap) (L : List Loc) : Prop := ∃ (b : Addr) (kb : ClassId), v = none ∧ Fr n0 L ∧ Keep h0 h [a] ∧ h0.size ≤ b ∧ Ovr Z kb "java/lang/Object" ∧ Exa Z h a "java/util/ArrayList" ∧ Fld Z h a "java/util/AbstractList" "modCount" "I" (.int mc) ∧ Fld Z h a "java/util/ArrayList" "elementData" "[Ljava/lang/Object;" (.ref b) ∧ Fld Z h a "java/util/ArrayList" "size" "I" (.int (1 : Int32)) ∧ Arv Z h b kb (.object "java/lang/Object") (10 : Int32) [(.ref el), .null, .null, .null, .null, .null, .null, .null, .null, .null] .null
def PrmA3_0 (s : State) (Z : State) (a : Addr) (el : Addr) (w : Addr) (mc : Int32) (kw : ClassId) (h0 : Heap) (n0 : Nat) : State → Outcome → Prop := fun U' o => ∃ v L, o = .returned v ∧ QrmA3_0 Z a el w mc kw h0 n0 v U'.heap L ∧ FrameEnd s o U' L ({ frames := 3, cells := 1, slots := 10, locals := 41 } : Room).cells ({ frames := 3, cells := 1, slots := 10, locals := 41 } : Room).slots
set_option maxRecDepth 65536 in
set_option maxHeartbeats 40000000 in
theorem rmA3_0 (l : Launch) (Z : State) (a0 : Array Value) (hw : ∀ d ∈ tables_1, d.before a0 Z = true) (ws : List Jvm.Cond) (a : Addr) (el : Addr) (w : Addr) (mc : Int32) (kw : ClassId) (h0 : Heap) (n0 : Nat) (Z0 : n0 ≤ h0.size) (Ea : Exa Z h0 a "java/util/ArrayList") (Fm : Fld Z h0 a "java/util/AbstractList" "modCount" "I" (.int mc)) (Fe : Fld Z h0 a "java/util/ArrayList" "elementData" "[Ljava/lang/Object;" (.ref w)) (Fs : Fld Z h0 a "java/util/ArrayList" "size" "I" (.int (0 : Int32))) (ga : n0 ≤ a) (S_D : Sta Z h0 "java/util/ArrayList" "DEFAULTCAPACITY_EMPTY_ELEMENTDATA" "[Ljava/lang/Object;" (.ref w)) (V_w : Arv Z h0 w kw (.object "java/lang/Object") (0 : Int32) [] .null) (naw : a ≠ w) (Ee : Exa Z h0 el "[I") :
    MetFree l (⟨"java/util/ArrayList", "add", "(Ljava/lang/Object;[Ljava/lang/Object;I)V"⟩ : MethodName) (head1 (Jvm.Cond.code (⟨"java/util/ArrayList", "add", "(Ljava/lang/Object;[Ljava/lang/Object;I)V"⟩ : MethodName) jdk_38_method_24_code 4 none :: ws) ({ frames := 3, cells := 1, slots := 10, locals := 41 } : Room)) (fun aa U => aa = #[(.ref a), (.ref el), (.ref w), (.int (0 : Int32))] ∧ Z.Warmed39 U.vm ∧ U.heap = h0) (fun _ _ _ _ _ => True) (fun _ U o U' => ∃ v L, o = .returned v ∧ QrmA3_0 Z a el w mc kw h0 n0 v U'.heap L ∧ FrameEnd U o U' L ({ frames := 3, cells := 1, slots := 10, locals := 41 } : Room).cells ({ frames := 3, cells := 1, slots := 10, locals := 41 } : Room).slots) := by
  refine MetFree.of_bodySF (plainFor_of_name pn_2) hisR ?_
  intro p e s m args below meth c s₁ Bd hml0 hP hK
  obtain ⟨rfl, hZ, hh⟩ := hP
  have hx := Bd.exec
  have hlk : meth.locks = false := by first | exact BodyLoose.notSynchronized Bd | exact Body.notSynchronized Bd
  have hby := Bd.bytes
  have hml : c.maxLocals = 4 := hml0
  have hown : s.vm.findClass "java/util/ArrayList" = some m.cls := findClass_of_methodNamed Bd.named
  have hnm := (name_of_methodNamed Bd.named Bd.method).1
  have X0 : Stand p l e ({ frames := 3, cells := 1, slots := 10, locals := 41 } : Room) s m #[(.ref a), (.ref el), (.ref w), (.int (0 : Int32))] below meth c s₁ [] 0 0 := Stand.of_body Bd
  have e0 : s₁.heap = h0 := by rw [← hh, Bd.state]; rfl
  have N0 := Fr.nil n0
  show Done p e below (PrmA3_0 s Z a el w mc kw h0 n0) (s₁.setTop (entryFrame m #[(.ref a), (.ref el), (.ref w), (.int (0 : Int32))] 4))
  refine Done.st (B := s₁.setTop (mkF m 0 #[.val (.ref a), .val (.ref el), .val (.ref w), .val (.int (0 : Int32))] [])) (fun _ k => castTop (ef_rmA3_0 m a el w) k) ?_
  refine Done.st (B := s₁.setTop (mkF m 1 #[.val (.ref a), .val (.ref el), .val (.ref w), .val (.int (0 : Int32))] [(.int (0 : Int32))])) (fun _ k => XS.iloadN X0.here hx rfl (hb hby d9_0) rfl k) ?_
  refine Done.st (B := s₁.setTop (mkF m 2 #[.val (.ref a), .val (.ref el), .val (.ref w), .val (.int (0 : Int32))] [(.ref w), (.int (0 : Int32))])) (fun _ k => XS.aloadN X0.here hx rfl (hb hby d9_1) rfl rfl k) ?_
  obtain ⟨cl1, Ar1, q1, S1, M1, -⟩ := id V_w
  refine Done.st (B := s₁.setTop (mkF m 3 #[.val (.ref a), .val (.ref el), .val (.ref w), .val (.int (0 : Int32))] [(.int (0 : Int32)), (.int (0 : Int32))])) (fun _ k => X0.arraylength hx (by rw [e0]; exact Ar1.1) (State.isArrayOf_alike hZ.alike Ar1.2.1) (g := (mkF m 2 #[.val (.ref a), .val (.ref el), .val (.ref w), .val (.int (0 : Int32))] [(.ref w), (.int (0 : Int32))])) rfl rfl (hb hby d9_2) _ (by rw [len_of S1 M1]; exact k)) ?_
  refine Done.st (B := s₁.setTop (mkF m 6 #[.val (.ref a), .val (.ref el), .val (.ref w), .val (.int (0 : Int32))] [])) (fun _ k => XS.icmpNo X0.here hx rfl (hb hby d9_3) rfl (teq (rfl : (0 : Int32) = (0 : Int32))).2 k) ?_
  refine Done.st (B := s₁.setTop (mkF m 7 #[.val (.ref a), .val (.ref el), .val (.ref w), .val (.int (0 : Int32))] [(.ref a)])) (fun _ k => XS.aloadN X0.here hx rfl (hb hby d9_6) rfl rfl k) ?_
  obtain ⟨cq2, q2, q2'⟩ := Ea.cell
  obtain ⟨_, _, ⟨T2, L2, k2, n2⟩, -, X2, ⟨Lc2, hQ2, l2, y2, z2⟩, st2⟩ := X0.privateBack hx (y := (⟨"java/util/ArrayList", "grow", "()[Ljava/lang/Object;"⟩ : MethodName)) hown (mvT hZ (hw _ (List.mem_of_getElem? (i := 66) rfl))) (mvT hZ (hw _ (List.mem_of_getElem? (i := 67) rfl))) (mvT hZ (hw _ (List.mem_of_getElem? (i := 69) rfl))) (Cond.privateMethod_at (mvP hZ (hw _ (List.mem_of_getElem? (i := 68) rfl)) (args := #[]))) (mvT hZ (hw _ (List.mem_of_getElem? (i := 70) rfl))) (by decide) (backOf (W := 0) (rm10 l Z a0 hw [] a  mc w kw h0 n0 Z0 Ea Fm Fe Fs ga S_D V_w naw) hZ (hw _ (List.mem_of_getElem? (i := 70) rfl)) (hw _ (List.mem_of_getElem? (i := 3) rfl)) (by decide) (by decide)) (g := (mkF m 7 #[.val (.ref a), .val (.ref el), .val (.ref w), .val (.int (0 : Int32))] [(.ref a)])) rfl (by rw [hml]; rfl) (Steps.refl _) (a := a) (by rw [e0]; exact q2) q2' (argsL := []) (rest := []) (lenOf pd_3 rfl) rfl (by show 2 * 0 + _ ≤ _; exact Nat.le_of_eq rfl) (hb hby d9_7) (fun _ _ => ⟨rfl, e0, (by decide : 0 + 1 ≤ _), (by decide : 0 + 10 ≤ _)⟩)
  dsimp only [Pt.U, Pt.locs, Pt.cells, Pt.slots] at X2 l2 y2 z2 st2 hQ2
  subst l2 y2 z2
  obtain ⟨g, kg, rfl, N2q, sz2, K2, O_g, f2_1, f2_2, f2_3, f2_4, f2_5⟩ := hQ2
  have N2 := Fr.app N0 N2q
  have ne_a_g : a ≠ g := Nat.ne_of_lt (Nat.lt_of_lt_of_le Ea.lt sz2)
  have ne_w_g : w ≠ g := Nat.ne_of_lt (Nat.lt_of_lt_of_le V_w.lt sz2)
  have ne_el_g : el ≠ g := Nat.ne_of_lt (Nat.lt_of_lt_of_le Ee.lt sz2)
  have ge_g : n0 ≤ g := Nat.le_trans Z0 sz2
  have sz_g : h0.size ≤ g := Nat.le_trans ((Keep.refl h0 [a])).1 sz2
  have Z2 : n0 ≤ T2.heap.size := Nat.le_trans Z0 K2.1
  have KK2 : Keep h0 T2.heap [a] := ((Keep.refl h0 [a])).trans K2 (allS (Or.inl (List.mem_of_getElem? (i := 0) rfl)) all0)
  refine Done.st (B := T2.setTop (mkF m 10 #[.val (.ref a), .val (.ref el), .val (.ref w), .val (.int (0 : Int32))] [(.ref g)])) (fun _ k => st2.trans k) ?_
  refine Done.st (B := T2.setTop (mkF m 11 #[.val (.ref a), .val (.ref el), .val (.ref g), .val (.int (0 : Int32))] [])) (fun _ k => XS.astoreN X2.here hx rfl (hb hby d9_10) rfl rfl (l' := #[.val (.ref a), .val (.ref el), .val (.ref g), .val (.int (0 : Int32))]) rfl k) ?_
  refine Done.st (B := T2.setTop (mkF m 12 #[.val (.ref a), .val (.ref el), .val (.ref g), .val (.int (0 : Int32))] [(.ref g)])) (fun _ k => XS.aloadN X2.here hx rfl (hb hby d9_11) rfl rfl k) ?_
  refine Done.st (B := T2.setTop (mkF m 13 #[.val (.ref a), .val (.ref el), .val (.ref g), .val (.int (0 : Int32))] [(.int (0 : Int32)), (.ref g)])) (fun _ k => XS.iloadN X2.here hx rfl (hb hby d9_12) rfl k) ?_
  refine Done.st (B := T2.setTop (mkF m 14 #[.val (.ref a), .val (.ref el), .val (.ref g), .val (.int (0 : Int32))] [(.ref el), (.int (0 : Int32)), (.ref g)])) (fun _ k => XS.aloadN X2.here hx rfl (hb hby d9_13) rfl rfl k) ?_
  have c4 := (Ee.keep K2)
  obtain ⟨cl3, Ar3, q3, S3, M3, H3, G3⟩ := id f2_5
  have hin3 : ¬ ((0 : Int32) < 0 ∨ cl3.slots.size ≤ ((0 : Int32)).toNatClampNeg) := inb_of S3 ⟨by decide, by decide⟩
  obtain ⟨T3, h3, X3, e3, W3, st3⟩ := stR X2 hx hZ rfl Ar3 (j := (0 : Int32)) hin3 rfl (Sto.ofV Ar3 q3 O_g (Ins.of_exa c4 (hw _ (List.mem_of_getElem? (i := 82) rfl)))) (g := (mkF m 14 #[.val (.ref a), .val (.ref el), .val (.ref g), .val (.int (0 : Int32))] [(.ref el), (.int (0 : Int32)), (.ref g)])) rfl rfl (hb hby d9_14)
  have V3 : Arv Z h3 g kg (.object "java/lang/Object") (10 : Int32) [(.ref el), .null, .null, .null, .null, .null, .null, .null, .null, .null] .null := Arv.set Ar3 q3 S3 M3 H3 G3 rfl W3 0 rfl (Nat.le_of_ble_eq_true rfl)
  have N3 := Fr.snoc X3 N2 ge_g
  have Z3 : n0 ≤ h3.size := Nat.le_trans Z2 (Keep.of_wr W3).1
  have KK3 : Keep h0 h3 [a] := (KK2).wr W3 (Or.inr sz_g)
  refine Done.st (B := T3.setTop (mkF m 15 #[.val (.ref a), .val (.ref el), .val (.ref g), .val (.int (0 : Int32))] [])) (fun _ k => st3 _ k) ?_
  refine Done.st (B := T3.setTop (mkF m 16 #[.val (.ref a), .val (.ref el), .val (.ref g), .val (.int (0 : Int32))] [(.ref a)])) (fun _ k => XS.aloadN X3.here hx rfl (hb hby d9_15) rfl rfl k) ?_
  refine Done.st (B := T3.setTop (mkF m 17 #[.val (.ref a), .val (.ref el), .val (.ref g), .val (.int (0 : Int32))] [(.int (0 : Int32)), (.ref a)])) (fun _ k => XS.iloadN X3.here hx rfl (hb hby d9_16) rfl k) ?_
  refine Done.st (B := T3.setTop (mkF m 18 #[.val (.ref a), .val (.ref el), .val (.ref g), .val (.int (0 : Int32))] [(.int (1 : Int32)), (.int (0 : Int32)), (.ref a)])) (fun _ k => XS.iconst X3.here hx rfl (hb hby d9_17) k) ?_
  refine Done.st (B := T3.setTop (mkF m 19 #[.val (.ref a), .val (.ref el), .val (.ref g), .val (.int (0 : Int32))] [(.int (1 : Int32)), (.ref a)])) (fun _ k => XS.iadd X3.here hx rfl (hb hby d9_18) rfl k) ?_
  have c5 := (Exa.wr W3 f2_1)
  have c6 := (Fld.other W3 f2_4 (Or.inl ne_a_g))
  obtain ⟨T7, h7, X7, e7, W7, st7⟩ := putF X3 hx hZ hown (host := "") (Or.inl (hw _ (List.mem_of_getElem? (i := 43) rfl))) Via.refl e3 c6 c5 (Or.inl (hw _ (List.mem_of_getElem? (i := 44) rfl))) (hw _ (List.mem_of_getElem? (i := 2) rfl)) (ty := .int) (by decide) rfl rfl (g := (mkF m 19 #[.val (.ref a), .val (.ref el), .val (.ref g), .val (.int (0 : Int32))] [(.int (1 : Int32)), (.ref a)])) rfl rfl (hb hby d9_19)
  have F7 := Fld.same W7 c6
  have N7 := Fr.snoc X7 N3 ga
  have Z7 : n0 ≤ h7.size := Nat.le_trans Z3 (Keep.of_wr W7).1
  have KK7 : Keep h0 h7 [a] := (KK3).wr W7 (Or.inl (List.mem_of_getElem? (i := 0) rfl))
  refine Done.st (B := T7.setTop (mkF m 22 #[.val (.ref a), .val (.ref el), .val (.ref g), .val (.int (0 : Int32))] [])) (fun _ k => st7 _ k) ?_
  obtain ⟨fs, hr, hrun, hended, hW, hsame⟩ := X7.leave (v := none) (hlocks := hlk) (fun _ => rfl)
  have c9 := (Exa.wr W7 c5)
  have c10 := (Fld.other W7 (Fld.other W3 f2_2 (Or.inl ne_a_g)) (Or.inr (slot_ne (Or.inl (hw _ (List.mem_of_getElem? (i := 23) rfl))) (Or.inl (hw _ (List.mem_of_getElem? (i := 44) rfl))) (by decide) (t := .int) (t' := .int) (by decide) (by decide))))
  have c11 := (Fld.other W7 (Fld.other W3 f2_3 (Or.inl ne_a_g)) (Or.inr (slot_ne (Or.inl (hw _ (List.mem_of_getElem? (i := 26) rfl))) (Or.inl (hw _ (List.mem_of_getElem? (i := 44) rfl))) (by decide) (t := (.array (.object "java/lang/Object"))) (t' := .int) (by decide) (by decide))))
  have c12 := (V3.other W7 (Ne.symm ne_a_g))
  refine Done.fin (X7.returnOut hx Bd.returns (hb hby d9_22) hr) hrun hended ⟨_, _, rfl, ?_, ⟨_, rfl⟩, hW, hsame.mono (by decide) (by decide)⟩
  show QrmA3_0 Z a el w mc kw h0 n0 _ T7.heap _
  rw [e7]
  exact ⟨g, _, rfl, N7, KK7, sz_g, O_g, c9, c10, c11, F7, c12⟩
theorem ef_rmA1_0 (m : MethodId) (a : Addr) (el : Addr) : entryFrame m #[(.ref a), (.ref el)] 2 = mkF m 0 #[.val (.ref a), .val (.ref el)] [] := by first | (simp [entryFrame, mkF, argsToLocals, Value.category]; done) | rfl
def QrmA1_0 (Z : State) (a : Addr) (el : Addr) (mc : Int32) (w : Addr) (kw : ClassId) (h0 : Heap) (n0 : Nat) (v : Option Value) (h : Heap) (L : List Loc) : Prop := ∃ (b : Addr) (kb : ClassId), v = some (.int (1 : Int32)) ∧ Fr n0 L ∧ Keep h0 h [a] ∧ h0.size ≤ b ∧ Ovr Z kb "java/lang/Object" ∧ Exa Z h a "java/util/ArrayList" ∧ Fld Z h a "java/util/AbstractList" "modCount" "I" (.int (mc + (1 : Int32))) ∧ Fld Z h a "java/util/ArrayList" "elementData" "[Ljava/lang/Object;" (.ref b) ∧ Fld Z h a "java/util/ArrayList" "size" "I" (.int (1 : Int32)) ∧ Arv Z h b kb (.object "java/lang/Object") (10 : Int32) [(.ref el), .null, .null, .null, .null, .null, .null, .null, .null, .null] .null
def PrmA1_0 (s : State) (Z : State) (a : Addr) (el : Addr) (mc : Int32) (w : Addr) (kw : ClassId) (h0 : Heap) (n0 : Nat) : State → Outcome → Prop := fun U' o => ∃ v L, o = .returned v ∧ QrmA1_0 Z a el mc w kw h0 n0 v U'.heap L ∧ FrameEnd s o U' L ({ frames := 4, cells := 1, slots := 10, locals := 56 } : Room).cells ({ frames := 4, cells := 1, slots := 10, locals := 56 } : Room).slots
set_option maxRecDepth 65536 in
set_option maxHeartbeats 40000000 in
theorem rmA1_0 (l : Launch) (Z : State) (a0 : Array Value) (hw : ∀ d ∈ tables_1, d.before a0 Z = true) (ws : List Jvm.Cond) (a : Addr) (el : Addr) (mc : Int32) (w : Addr) (kw : ClassId) (h0 : Heap) (n0 : Nat) (Z0 : n0 ≤ h0.size) (Ea : Exa Z h0 a "java/util/ArrayList") (Fm : Fld Z h0 a "java/util/AbstractList" "modCount" "I" (.int mc)) (Fe : Fld Z h0 a "java/util/ArrayList" "elementData" "[Ljava/lang/Object;" (.ref w)) (Fs : Fld Z h0 a "java/util/ArrayList" "size" "I" (.int (0 : Int32))) (ga : n0 ≤ a) (S_D : Sta Z h0 "java/util/ArrayList" "DEFAULTCAPACITY_EMPTY_ELEMENTDATA" "[Ljava/lang/Object;" (.ref w)) (V_w : Arv Z h0 w kw (.object "java/lang/Object") (0 : Int32) [] .null) (naw : a ≠ w) (Ee : Exa Z h0 el "[I") :
    MetFree l (⟨"java/util/ArrayList", "add", "(Ljava/lang/Object;)Z"⟩ : MethodName) (head1 (Jvm.Cond.code (⟨"java/util/ArrayList", "add", "(Ljava/lang/Object;)Z"⟩ : MethodName) jdk_38_method_25_code 2 (some .boolean) :: ws) ({ frames := 4, cells := 1, slots := 10, locals := 56 } : Room)) (fun aa U => aa = #[(.ref a), (.ref el)] ∧ Z.Warmed39 U.vm ∧ U.heap = h0) (fun _ _ _ _ _ => True) (fun _ U o U' => ∃ v L, o = .returned v ∧ QrmA1_0 Z a el mc w kw h0 n0 v U'.heap L ∧ FrameEnd U o U' L ({ frames := 4, cells := 1, slots := 10, locals := 56 } : Room).cells ({ frames := 4, cells := 1, slots := 10, locals := 56 } : Room).slots) := by
  refine MetFree.of_bodySF (plainFor_of_name pn_2) hisR ?_
  intro p e s m args below meth c s₁ Bd hml0 hP hK
  obtain ⟨rfl, hZ, hh⟩ := hP
  have hx := Bd.exec
  have hlk : meth.locks = false := by first | exact BodyLoose.notSynchronized Bd | exact Body.notSynchronized Bd
  have hby := Bd.bytes
  have hml : c.maxLocals = 2 := hml0
  have hown : s.vm.findClass "java/util/ArrayList" = some m.cls := findClass_of_methodNamed Bd.named
  have hnm := (name_of_methodNamed Bd.named Bd.method).1
  have X0 : Stand p l e ({ frames := 4, cells := 1, slots := 10, locals := 56 } : Room) s m #[(.ref a), (.ref el)] below meth c s₁ [] 0 0 := Stand.of_body Bd
  have e0 : s₁.heap = h0 := by rw [← hh, Bd.state]; rfl
  have N0 := Fr.nil n0
  show Done p e below (PrmA1_0 s Z a el mc w kw h0 n0) (s₁.setTop (entryFrame m #[(.ref a), (.ref el)] 2))
  refine Done.st (B := s₁.setTop (mkF m 0 #[.val (.ref a), .val (.ref el)] [])) (fun _ k => castTop (ef_rmA1_0 m a el) k) ?_
  refine Done.st (B := s₁.setTop (mkF m 1 #[.val (.ref a), .val (.ref el)] [(.ref a)])) (fun _ k => XS.aloadN X0.here hx rfl (hb hby d8_0) rfl rfl k) ?_
  refine Done.st (B := s₁.setTop (mkF m 2 #[.val (.ref a), .val (.ref el)] [(.ref a), (.ref a)])) (fun _ k => XS.dup X0.here hx rfl (hb hby d8_1) rfl rfl k) ?_
  obtain ⟨T1, X1, e1, st1⟩ := getF X0 hx hZ hown (host := "") (Or.inl (hw _ (List.mem_of_getElem? (i := 59) rfl))) (Via.of (hw _ (List.mem_of_getElem? (i := 60) rfl))) e0 Fm (g := (mkF m 2 #[.val (.ref a), .val (.ref el)] [(.ref a), (.ref a)])) rfl rfl (hb hby d8_2)
  refine Done.st (B := T1.setTop (mkF m 5 #[.val (.ref a), .val (.ref el)] [(.int mc), (.ref a)])) (fun _ k => st1 _ k) ?_
  refine Done.st (B := T1.setTop (mkF m 6 #[.val (.ref a), .val (.ref el)] [(.int (1 : Int32)), (.int mc), (.ref a)])) (fun _ k => XS.iconst X1.here hx rfl (hb hby d8_5) k) ?_
  refine Done.st (B := T1.setTop (mkF m 7 #[.val (.ref a), .val (.ref el)] [(.int (mc + (1 : Int32))), (.ref a)])) (fun _ k => XS.iadd X1.here hx rfl (hb hby d8_6) rfl k) ?_
  obtain ⟨T2, h2, X2, e2, W2, st2⟩ := putF X1 hx hZ hown (host := "") (Or.inl (hw _ (List.mem_of_getElem? (i := 59) rfl))) (Via.of (hw _ (List.mem_of_getElem? (i := 60) rfl))) e1 Fm Ea (Or.inl (hw _ (List.mem_of_getElem? (i := 23) rfl))) (hw _ (List.mem_of_getElem? (i := 2) rfl)) (ty := .int) (by decide) rfl rfl (g := (mkF m 7 #[.val (.ref a), .val (.ref el)] [(.int (mc + (1 : Int32))), (.ref a)])) rfl rfl (hb hby d8_7)
  have F2 := Fld.same W2 Fm
  have N2 := Fr.snoc X2 N0 ga
  have Z2 : n0 ≤ h2.size := Nat.le_trans Z0 (Keep.of_wr W2).1
  have KK2 : Keep h0 h2 [a] := ((Keep.refl h0 [a])).wr W2 (Or.inl (List.mem_of_getElem? (i := 0) rfl))
  refine Done.st (B := T2.setTop (mkF m 10 #[.val (.ref a), .val (.ref el)] [])) (fun _ k => st2 _ k) ?_
  refine Done.st (B := T2.setTop (mkF m 11 #[.val (.ref a), .val (.ref el)] [(.ref a)])) (fun _ k => XS.aloadN X2.here hx rfl (hb hby d8_10) rfl rfl k) ?_
  refine Done.st (B := T2.setTop (mkF m 12 #[.val (.ref a), .val (.ref el)] [(.ref el), (.ref a)])) (fun _ k => XS.aloadN X2.here hx rfl (hb hby d8_11) rfl rfl k) ?_
  refine Done.st (B := T2.setTop (mkF m 13 #[.val (.ref a), .val (.ref el)] [(.ref a), (.ref el), (.ref a)])) (fun _ k => XS.aloadN X2.here hx rfl (hb hby d8_12) rfl rfl k) ?_
  have c4 := (Fld.other W2 Fe (Or.inr (slot_ne (Or.inl (hw _ (List.mem_of_getElem? (i := 26) rfl))) (Or.inl (hw _ (List.mem_of_getElem? (i := 23) rfl))) (by decide) (t := (.array (.object "java/lang/Object"))) (t' := .int) (by decide) (by decide))))
  obtain ⟨T3, X3, e3, st3⟩ := getF X2 hx hZ hown (host := "") (Or.inl (hw _ (List.mem_of_getElem? (i := 25) rfl))) Via.refl e2 c4 (g := (mkF m 13 #[.val (.ref a), .val (.ref el)] [(.ref a), (.ref el), (.ref a)])) rfl rfl (hb hby d8_13)
  refine Done.st (B := T3.setTop (mkF m 16 #[.val (.ref a), .val (.ref el)] [(.ref w), (.ref el), (.ref a)])) (fun _ k => st3 _ k) ?_
  refine Done.st (B := T3.setTop (mkF m 17 #[.val (.ref a), .val (.ref el)] [(.ref a), (.ref w), (.ref el), (.ref a)])) (fun _ k => XS.aloadN X3.here hx rfl (hb hby d8_16) rfl rfl k) ?_
  have c6 := (Fld.other W2 Fs (Or.inr (slot_ne (Or.inl (hw _ (List.mem_of_getElem? (i := 44) rfl))) (Or.inl (hw _ (List.mem_of_getElem? (i := 23) rfl))) (by decide) (t := .int) (t' := .int) (by decide) (by decide))))
  obtain ⟨T5, X5, e5, st5⟩ := getF X3 hx hZ hown (host := "") (Or.inl (hw _ (List.mem_of_getElem? (i := 43) rfl))) Via.refl e3 c6 (g := (mkF m 17 #[.val (.ref a), .val (.ref el)] [(.ref a), (.ref w), (.ref el), (.ref a)])) rfl rfl (hb hby d8_17)
  refine Done.st (B := T5.setTop (mkF m 20 #[.val (.ref a), .val (.ref el)] [(.int (0 : Int32)), (.ref w), (.ref el), (.ref a)])) (fun _ k => st5 _ k) ?_
  have c7 := (Exa.wr W2 Ea)
  have c8 := (Sta.wr W2 S_D)
  have c9 := (V_w.other W2 (Ne.symm naw))
  have c10 := (Exa.wr W2 Ee)
  obtain ⟨cq11, q11, q11'⟩ := c7.cell
  obtain ⟨_, _, ⟨T11, L11, k11, n11⟩, -, X11, ⟨Lc11, hQ11, l11, y11, z11⟩, st11⟩ := X5.privateBack hx (y := (⟨"java/util/ArrayList", "add", "(Ljava/lang/Object;[Ljava/lang/Object;I)V"⟩ : MethodName)) hown (mvT hZ (hw _ (List.mem_of_getElem? (i := 61) rfl))) (mvT hZ (hw _ (List.mem_of_getElem? (i := 62) rfl))) (mvT hZ (hw _ (List.mem_of_getElem? (i := 64) rfl))) (Cond.privateMethod_at (mvP hZ (hw _ (List.mem_of_getElem? (i := 63) rfl)) (args := #[]))) (mvT hZ (hw _ (List.mem_of_getElem? (i := 65) rfl))) (by decide) (backOf (W := 0) (rmA3_0 l Z a0 hw [] a el w (mc + (1 : Int32)) kw h2 n0 Z2 c7 F2 c4 c6 ga c8 c9 naw c10) hZ (hw _ (List.mem_of_getElem? (i := 65) rfl)) (hw _ (List.mem_of_getElem? (i := 3) rfl)) (by decide) (by decide)) (g := (mkF m 20 #[.val (.ref a), .val (.ref el)] [(.int (0 : Int32)), (.ref w), (.ref el), (.ref a)])) rfl (by rw [hml]; rfl) (Steps.refl _) (a := a) (by rw [e5]; exact q11) q11' (argsL := [(.ref el), (.ref w), (.int (0 : Int32))]) (rest := []) (lenOf pd_4 rfl) rfl (by show 2 * 0 + _ ≤ _; exact Nat.le_of_eq rfl) (hb hby d8_20) (fun _ _ => ⟨rfl, e5, (by decide : 0 + 1 ≤ _), (by decide : 0 + 10 ≤ _)⟩)
  dsimp only [Pt.U, Pt.locs, Pt.cells, Pt.slots] at X11 l11 y11 z11 st11 hQ11
  subst l11 y11 z11
  obtain ⟨g, kg, rfl, N11q, K11, f11_0, O_g, f11_2, f11_3, f11_4, f11_5, f11_6⟩ := hQ11
  have N11 := Fr.app N2 N11q
  have ne_a_g : a ≠ g := Nat.ne_of_lt (Nat.lt_of_lt_of_le c7.lt f11_0)
  have ne_w_g : w ≠ g := Nat.ne_of_lt (Nat.lt_of_lt_of_le c9.lt f11_0)
  have ne_el_g : el ≠ g := Nat.ne_of_lt (Nat.lt_of_lt_of_le c10.lt f11_0)
  have ge_g : n0 ≤ g := Nat.le_trans Z2 f11_0
  have sz_g : h0.size ≤ g := Nat.le_trans (KK2).1 f11_0
  have Z11 : n0 ≤ T11.heap.size := Nat.le_trans Z2 K11.1
  have KK11 : Keep h0 T11.heap [a] := (KK2).trans K11 (allS (Or.inl (List.mem_of_getElem? (i := 0) rfl)) all0)
  refine Done.st (B := T11.setTop (mkF m 23 #[.val (.ref a), .val (.ref el)] [])) (fun _ k => st11.trans k) ?_
  refine Done.st (B := T11.setTop (mkF m 24 #[.val (.ref a), .val (.ref el)] [(.int (1 : Int32))])) (fun _ k => XS.iconst X11.here hx rfl (hb hby d8_23) k) ?_
  obtain ⟨fs, hr, hrun, hended, hW, hsame⟩ := X11.leave (v := some (.int (1 : Int32))) (hlocks := hlk) (fun h => by rw [Bd.returns] at h; cases h)
  refine Done.fin (retN X11 hx (t := .boolean) Bd.returns (by simp) (hb hby d8_24) hr) hrun hended ⟨_, _, rfl, ?_, ⟨_, rfl⟩, hW, hsame.mono (by decide) (by decide)⟩
  show QrmA1_0 Z a el mc w kw h0 n0 _ T11.heap _
  exact ⟨g, _, rfl, N11, KK11, sz_g, O_g, f11_2, f11_3, f11_4, f11_5, f11_6⟩
theorem ef_rmA3_1 (m : MethodId) (a : Addr) (el : Addr) (t : Addr) : entryFrame m #[(.ref a), (.ref el), (.ref t), (.int (1 : Int32))] 4 = mkF m 0 #[.val (.ref a), .val (.ref el), .val (.ref t), .val (.int (1 : Int32))] [] := by first | (simp [entryFrame, mkF, argsToLocals, Value.category]; done) | rfl
def QrmA3_1 (Z : State) (a : Addr) (el : Addr) (t : Addr) (mc : Int32) (kt : ClassId) (el0 : Addr) (h0 : Heap) (n0 : Nat) (v : Option Value) (h : Heap) (L : List Loc) : Prop := v = none ∧ Fr n0 L ∧ Keep h0 h [a, t] ∧ Exa Z h a "java/util/ArrayList" ∧ Fld Z h a "java/util/AbstractList" "modCount" "I" (.int mc) ∧ Fld Z h a "java/util/ArrayList" "elementData" "[Ljava/lang/Object;" (.ref t) ∧ Fld Z h a "java/util/ArrayList" "size" "I" (.int (2 : Int32)) ∧ Arv Z h t kt (.object "java/lang/Object") (10 : Int32) [(.ref el0), (.ref el), .null, .null, .null, .null, .null, .null, .null, .null] .null
def PrmA3_1 (s : State) (Z : State) (a : Addr) (el : Addr) (t : Addr) (mc : Int32) (kt : ClassId) (el0 : Addr) (h0 : Heap) (n0 : Nat) : State → Outcome → Prop := fun U' o => ∃ v L, o = .returned v ∧ QrmA3_1 Z a el t mc kt el0 h0 n0 v U'.heap L ∧ FrameEnd s o U' L ({ frames := 0, cells := 0, slots := 0, locals := 0 } : Room).cells ({ frames := 0, cells := 0, slots := 0, locals := 0 } : Room).slots
set_option maxRecDepth 65536 in
set_option maxHeartbeats 40000000 in
theorem rmA3_1 (l : Launch) (Z : State) (a0 : Array Value) (hw : ∀ d ∈ tables_1, d.before a0 Z = true) (ws : List Jvm.Cond) (a : Addr) (el : Addr) (t : Addr) (mc : Int32) (kt : ClassId) (el0 : Addr) (h0 : Heap) (n0 : Nat) (Z0 : n0 ≤ h0.size) (Ea : Exa Z h0 a "java/util/ArrayList") (Fm : Fld Z h0 a "java/util/AbstractList" "modCount" "I" (.int mc)) (Fe : Fld Z h0 a "java/util/ArrayList" "elementData" "[Ljava/lang/Object;" (.ref t)) (Fs : Fld Z h0 a "java/util/ArrayList" "size" "I" (.int (1 : Int32))) (ga : n0 ≤ a) (V_t : Arv Z h0 t kt (.object "java/lang/Object") (10 : Int32) [(.ref el0), .null, .null, .null, .null, .null, .null, .null, .null, .null] .null) (O_t : Ovr Z kt "java/lang/Object") (gt : n0 ≤ t) (nat : a ≠ t) (Ee : Exa Z h0 el "[I") :
    MetFree l (⟨"java/util/ArrayList", "add", "(Ljava/lang/Object;[Ljava/lang/Object;I)V"⟩ : MethodName) (head1 (Jvm.Cond.code (⟨"java/util/ArrayList", "add", "(Ljava/lang/Object;[Ljava/lang/Object;I)V"⟩ : MethodName) jdk_38_method_24_code 4 none :: ws) ({ frames := 0, cells := 0, slots := 0, locals := 0 } : Room)) (fun aa U => aa = #[(.ref a), (.ref el), (.ref t), (.int (1 : Int32))] ∧ Z.Warmed39 U.vm ∧ U.heap = h0) (fun _ _ _ _ _ => True) (fun _ U o U' => ∃ v L, o = .returned v ∧ QrmA3_1 Z a el t mc kt el0 h0 n0 v U'.heap L ∧ FrameEnd U o U' L ({ frames := 0, cells := 0, slots := 0, locals := 0 } : Room).cells ({ frames := 0, cells := 0, slots := 0, locals := 0 } : Room).slots) := by
  refine MetFree.of_bodySF (plainFor_of_name pn_2) hisR ?_
  intro p e s m args below meth c s₁ Bd hml0 hP hK
  obtain ⟨rfl, hZ, hh⟩ := hP
  have hx := Bd.exec
  have hlk : meth.locks = false := by first | exact BodyLoose.notSynchronized Bd | exact Body.notSynchronized Bd
  have hby := Bd.bytes
  have hml : c.maxLocals = 4 := hml0
  have hown : s.vm.findClass "java/util/ArrayList" = some m.cls := findClass_of_methodNamed Bd.named
  have hnm := (name_of_methodNamed Bd.named Bd.method).1
  have X0 : Stand p l e ({ frames := 0, cells := 0, slots := 0, locals := 0 } : Room) s m #[(.ref a), (.ref el), (.ref t), (.int (1 : Int32))] below meth c s₁ [] 0 0 := Stand.of_body Bd
  have e0 : s₁.heap = h0 := by rw [← hh, Bd.state]; rfl
  have N0 := Fr.nil n0
  show Done p e below (PrmA3_1 s Z a el t mc kt el0 h0 n0) (s₁.setTop (entryFrame m #[(.ref a), (.ref el), (.ref t), (.int (1 : Int32))] 4))
  refine Done.st (B := s₁.setTop (mkF m 0 #[.val (.ref a), .val (.ref el), .val (.ref t), .val (.int (1 : Int32))] [])) (fun _ k => castTop (ef_rmA3_1 m a el t) k) ?_
  refine Done.st (B := s₁.setTop (mkF m 1 #[.val (.ref a), .val (.ref el), .val (.ref t), .val (.int (1 : Int32))] [(.int (1 : Int32))])) (fun _ k => XS.iloadN X0.here hx rfl (hb hby d9_0) rfl k) ?_
  refine Done.st (B := s₁.setTop (mkF m 2 #[.val (.ref a), .val (.ref el), .val (.ref t), .val (.int (1 : Int32))] [(.ref t), (.int (1 : Int32))])) (fun _ k => XS.aloadN X0.here hx rfl (hb hby d9_1) rfl rfl k) ?_
  obtain ⟨cl1, Ar1, q1, S1, M1, -⟩ := id V_t
  refine Done.st (B := s₁.setTop (mkF m 3 #[.val (.ref a), .val (.ref el), .val (.ref t), .val (.int (1 : Int32))] [(.int (10 : Int32)), (.int (1 : Int32))])) (fun _ k => X0.arraylength hx (by rw [e0]; exact Ar1.1) (State.isArrayOf_alike hZ.alike Ar1.2.1) (g := (mkF m 2 #[.val (.ref a), .val (.ref el), .val (.ref t), .val (.int (1 : Int32))] [(.ref t), (.int (1 : Int32))])) rfl rfl (hb hby d9_2) _ (by rw [len_of S1 M1]; exact k)) ?_
  refine Done.st (B := s₁.setTop (mkF m 11 #[.val (.ref a), .val (.ref el), .val (.ref t), .val (.int (1 : Int32))] [])) (fun _ k => XS.icmpYes X0.here hx rfl (pc0 := 3) (pc' := 11) rfl (hb hby d9_3) rfl (feq (by decide : ¬ ((1 : Int32) = (10 : Int32)))).2 (by decide) (by decide) k) ?_
  refine Done.st (B := s₁.setTop (mkF m 12 #[.val (.ref a), .val (.ref el), .val (.ref t), .val (.int (1 : Int32))] [(.ref t)])) (fun _ k => XS.aloadN X0.here hx rfl (hb hby d9_11) rfl rfl k) ?_
  refine Done.st (B := s₁.setTop (mkF m 13 #[.val (.ref a), .val (.ref el), .val (.ref t), .val (.int (1 : Int32))] [(.int (1 : Int32)), (.ref t)])) (fun _ k => XS.iloadN X0.here hx rfl (hb hby d9_12) rfl k) ?_
  refine Done.st (B := s₁.setTop (mkF m 14 #[.val (.ref a), .val (.ref el), .val (.ref t), .val (.int (1 : Int32))] [(.ref el), (.int (1 : Int32)), (.ref t)])) (fun _ k => XS.aloadN X0.here hx rfl (hb hby d9_13) rfl rfl k) ?_
  obtain ⟨cl2, Ar2, q2, S2, M2, H2, G2⟩ := id V_t
  have hin2 : ¬ ((1 : Int32) < 0 ∨ cl2.slots.size ≤ ((1 : Int32)).toNatClampNeg) := inb_of S2 ⟨by decide, by decide⟩
  obtain ⟨T2, h2, X2, e2, W2, st2⟩ := stR X0 hx hZ e0 Ar2 (j := (1 : Int32)) hin2 rfl (Sto.ofV Ar2 q2 O_t (Ins.of_exa Ee (hw _ (List.mem_of_getElem? (i := 82) rfl)))) (g := (mkF m 14 #[.val (.ref a), .val (.ref el), .val (.ref t), .val (.int (1 : Int32))] [(.ref el), (.int (1 : Int32)), (.ref t)])) rfl rfl (hb hby d9_14)
  have V2 : Arv Z h2 t kt (.object "java/lang/Object") (10 : Int32) [(.ref el0), (.ref el), .null, .null, .null, .null, .null, .null, .null, .null] .null := Arv.set Ar2 q2 S2 M2 H2 G2 rfl W2 1 rfl (Nat.le_of_ble_eq_true rfl)
  have N2 := Fr.snoc X2 N0 gt
  have Z2 : n0 ≤ h2.size := Nat.le_trans Z0 (Keep.of_wr W2).1
  have KK2 : Keep h0 h2 [a, t] := ((Keep.refl h0 [a, t])).wr W2 (Or.inl (List.mem_of_getElem? (i := 1) rfl))
  refine Done.st (B := T2.setTop (mkF m 15 #[.val (.ref a), .val (.ref el), .val (.ref t), .val (.int (1 : Int32))] [])) (fun _ k => st2 _ k) ?_
  refine Done.st (B := T2.setTop (mkF m 16 #[.val (.ref a), .val (.ref el), .val (.ref t), .val (.int (1 : Int32))] [(.ref a)])) (fun _ k => XS.aloadN X2.here hx rfl (hb hby d9_15) rfl rfl k) ?_
  refine Done.st (B := T2.setTop (mkF m 17 #[.val (.ref a), .val (.ref el), .val (.ref t), .val (.int (1 : Int32))] [(.int (1 : Int32)), (.ref a)])) (fun _ k => XS.iloadN X2.here hx rfl (hb hby d9_16) rfl k) ?_
  refine Done.st (B := T2.setTop (mkF m 18 #[.val (.ref a), .val (.ref el), .val (.ref t), .val (.int (1 : Int32))] [(.int (1 : Int32)), (.int (1 : Int32)), (.ref a)])) (fun _ k => XS.iconst X2.here hx rfl (hb hby d9_17) k) ?_
  refine Done.st (B := T2.setTop (mkF m 19 #[.val (.ref a), .val (.ref el), .val (.ref t), .val (.int (1 : Int32))] [(.int (2 : Int32)), (.ref a)])) (fun _ k => XS.iadd X2.here hx rfl (hb hby d9_18) rfl k) ?_
  have c3 := (Exa.wr W2 Ea)
  have c4 := (Fld.other W2 Fs (Or.inl nat))
  obtain ⟨T5, h5, X5, e5, W5, st5⟩ := putF X2 hx hZ hown (host := "") (Or.inl (hw _ (List.mem_of_getElem? (i := 43) rfl))) Via.refl e2 c4 c3 (Or.inl (hw _ (List.mem_of_getElem? (i := 44) rfl))) (hw _ (List.mem_of_getElem? (i := 2) rfl)) (ty := .int) (by decide) rfl rfl (g := (mkF m 19 #[.val (.ref a), .val (.ref el), .val (.ref t), .val (.int (1 : Int32))] [(.int (2 : Int32)), (.ref a)])) rfl rfl (hb hby d9_19)
  have F5 := Fld.same W5 c4
  have N5 := Fr.snoc X5 N2 ga
  have Z5 : n0 ≤ h5.size := Nat.le_trans Z2 (Keep.of_wr W5).1
  have KK5 : Keep h0 h5 [a, t] := (KK2).wr W5 (Or.inl (List.mem_of_getElem? (i := 0) rfl))
  refine Done.st (B := T5.setTop (mkF m 22 #[.val (.ref a), .val (.ref el), .val (.ref t), .val (.int (1 : Int32))] [])) (fun _ k => st5 _ k) ?_
  obtain ⟨fs, hr, hrun, hended, hW, hsame⟩ := X5.leave (v := none) (hlocks := hlk) (fun _ => rfl)
  have c7 := (Exa.wr W5 c3)
  have c8 := (Fld.other W5 (Fld.other W2 Fm (Or.inl nat)) (Or.inr (slot_ne (Or.inl (hw _ (List.mem_of_getElem? (i := 23) rfl))) (Or.inl (hw _ (List.mem_of_getElem? (i := 44) rfl))) (by decide) (t := .int) (t' := .int) (by decide) (by decide))))
  have c9 := (Fld.other W5 (Fld.other W2 Fe (Or.inl nat)) (Or.inr (slot_ne (Or.inl (hw _ (List.mem_of_getElem? (i := 26) rfl))) (Or.inl (hw _ (List.mem_of_getElem? (i := 44) rfl))) (by decide) (t := (.array (.object "java/lang/Object"))) (t' := .int) (by decide) (by decide))))
  have c10 := (V2.other W5 (Ne.symm nat))
  refine Done.fin (X5.returnOut hx Bd.returns (hb hby d9_22) hr) hrun hended ⟨_, _, rfl, ?_, ⟨_, rfl⟩, hW, hsame.mono (by decide) (by decide)⟩
  show QrmA3_1 Z a el t mc kt el0 h0 n0 _ T5.heap _
  rw [e5]
  exact ⟨rfl, N5, KK5, c7, c8, c9, F5, c10⟩
theorem ef_rmA1_1 (m : MethodId) (a : Addr) (el : Addr) : entryFrame m #[(.ref a), (.ref el)] 2 = mkF m 0 #[.val (.ref a), .val (.ref el)] [] := by first | (simp [entryFrame, mkF, argsToLocals, Value.category]; done) | rfl
def QrmA1_1 (Z : State) (a : Addr) (el : Addr) (t : Addr) (mc : Int32) (kt : ClassId) (el0 : Addr) (h0 : Heap) (n0 : Nat) (v : Option Value) (h : Heap) (L : List Loc) : Prop := v = some (.int (1 : Int32)) ∧ Fr n0 L ∧ Keep h0 h [a, t] ∧ Exa Z h a "java/util/ArrayList" ∧ Fld Z h a "java/util/AbstractList" "modCount" "I" (.int (mc + (1 : Int32))) ∧ Fld Z h a "java/util/ArrayList" "elementData" "[Ljava/lang/Object;" (.ref t) ∧ Fld Z h a "java/util/ArrayList" "size" "I" (.int (2 : Int32)) ∧ Arv Z h t kt (.object "java/lang/Object") (10 : Int32) [(.ref el0), (.ref el), .null, .null, .null, .null, .null, .null, .null, .null] .null
def PrmA1_1 (s : State) (Z : State) (a : Addr) (el : Addr) (t : Addr) (mc : Int32) (kt : ClassId) (el0 : Addr) (h0 : Heap) (n0 : Nat) : State → Outcome → Prop := fun U' o => ∃ v L, o = .returned v ∧ QrmA1_1 Z a el t mc kt el0 h0 n0 v U'.heap L ∧ FrameEnd s o U' L ({ frames := 1, cells := 0, slots := 0, locals := 15 } : Room).cells ({ frames := 1, cells := 0, slots := 0, locals := 15 } : Room).slots
set_option maxRecDepth 65536 in
set_option maxHeartbeats 40000000 in
theorem rmA1_1 (l : Launch) (Z : State) (a0 : Array Value) (hw : ∀ d ∈ tables_1, d.before a0 Z = true) (ws : List Jvm.Cond) (a : Addr) (el : Addr) (t : Addr) (mc : Int32) (kt : ClassId) (el0 : Addr) (h0 : Heap) (n0 : Nat) (Z0 : n0 ≤ h0.size) (Ea : Exa Z h0 a "java/util/ArrayList") (Fm : Fld Z h0 a "java/util/AbstractList" "modCount" "I" (.int mc)) (Fe : Fld Z h0 a "java/util/ArrayList" "elementData" "[Ljava/lang/Object;" (.ref t)) (Fs : Fld Z h0 a "java/util/ArrayList" "size" "I" (.int (1 : Int32))) (ga : n0 ≤ a) (V_t : Arv Z h0 t kt (.object "java/lang/Object") (10 : Int32) [(.ref el0), .null, .null, .null, .null, .null, .null, .null, .null, .null] .null) (O_t : Ovr Z kt "java/lang/Object") (gt : n0 ≤ t) (nat : a ≠ t) (Ee : Exa Z h0 el "[I") :
    MetFree l (⟨"java/util/ArrayList", "add", "(Ljava/lang/Object;)Z"⟩ : MethodName) (head1 (Jvm.Cond.code (⟨"java/util/ArrayList", "add", "(Ljava/lang/Object;)Z"⟩ : MethodName) jdk_38_method_25_code 2 (some .boolean) :: ws) ({ frames := 1, cells := 0, slots := 0, locals := 15 } : Room)) (fun aa U => aa = #[(.ref a), (.ref el)] ∧ Z.Warmed39 U.vm ∧ U.heap = h0) (fun _ _ _ _ _ => True) (fun _ U o U' => ∃ v L, o = .returned v ∧ QrmA1_1 Z a el t mc kt el0 h0 n0 v U'.heap L ∧ FrameEnd U o U' L ({ frames := 1, cells := 0, slots := 0, locals := 15 } : Room).cells ({ frames := 1, cells := 0, slots := 0, locals := 15 } : Room).slots) := by
  refine MetFree.of_bodySF (plainFor_of_name pn_2) hisR ?_
  intro p e s m args below meth c s₁ Bd hml0 hP hK
  obtain ⟨rfl, hZ, hh⟩ := hP
  have hx := Bd.exec
  have hlk : meth.locks = false := by first | exact BodyLoose.notSynchronized Bd | exact Body.notSynchronized Bd
  have hby := Bd.bytes
  have hml : c.maxLocals = 2 := hml0
  have hown : s.vm.findClass "java/util/ArrayList" = some m.cls := findClass_of_methodNamed Bd.named
  have hnm := (name_of_methodNamed Bd.named Bd.method).1
  have X0 : Stand p l e ({ frames := 1, cells := 0, slots := 0, locals := 15 } : Room) s m #[(.ref a), (.ref el)] below meth c s₁ [] 0 0 := Stand.of_body Bd
  have e0 : s₁.heap = h0 := by rw [← hh, Bd.state]; rfl
  have N0 := Fr.nil n0
  show Done p e below (PrmA1_1 s Z a el t mc kt el0 h0 n0) (s₁.setTop (entryFrame m #[(.ref a), (.ref el)] 2))
  refine Done.st (B := s₁.setTop (mkF m 0 #[.val (.ref a), .val (.ref el)] [])) (fun _ k => castTop (ef_rmA1_1 m a el) k) ?_
  refine Done.st (B := s₁.setTop (mkF m 1 #[.val (.ref a), .val (.ref el)] [(.ref a)])) (fun _ k => XS.aloadN X0.here hx rfl (hb hby d8_0) rfl rfl k) ?_
  refine Done.st (B := s₁.setTop (mkF m 2 #[.val (.ref a), .val (.ref el)] [(.ref a), (.ref a)])) (fun _ k => XS.dup X0.here hx rfl (hb hby d8_1) rfl rfl k) ?_
  obtain ⟨T1, X1, e1, st1⟩ := getF X0 hx hZ hown (host := "") (Or.inl (hw _ (List.mem_of_getElem? (i := 59) rfl))) (Via.of (hw _ (List.mem_of_getElem? (i := 60) rfl))) e0 Fm (g := (mkF m 2 #[.val (.ref a), .val (.ref el)] [(.ref a), (.ref a)])) rfl rfl (hb hby d8_2)
  refine Done.st (B := T1.setTop (mkF m 5 #[.val (.ref a), .val (.ref el)] [(.int mc), (.ref a)])) (fun _ k => st1 _ k) ?_
  refine Done.st (B := T1.setTop (mkF m 6 #[.val (.ref a), .val (.ref el)] [(.int (1 : Int32)), (.int mc), (.ref a)])) (fun _ k => XS.iconst X1.here hx rfl (hb hby d8_5) k) ?_
  refine Done.st (B := T1.setTop (mkF m 7 #[.val (.ref a), .val (.ref el)] [(.int (mc + (1 : Int32))), (.ref a)])) (fun _ k => XS.iadd X1.here hx rfl (hb hby d8_6) rfl k) ?_
  obtain ⟨T2, h2, X2, e2, W2, st2⟩ := putF X1 hx hZ hown (host := "") (Or.inl (hw _ (List.mem_of_getElem? (i := 59) rfl))) (Via.of (hw _ (List.mem_of_getElem? (i := 60) rfl))) e1 Fm Ea (Or.inl (hw _ (List.mem_of_getElem? (i := 23) rfl))) (hw _ (List.mem_of_getElem? (i := 2) rfl)) (ty := .int) (by decide) rfl rfl (g := (mkF m 7 #[.val (.ref a), .val (.ref el)] [(.int (mc + (1 : Int32))), (.ref a)])) rfl rfl (hb hby d8_7)
  have F2 := Fld.same W2 Fm
  have N2 := Fr.snoc X2 N0 ga
  have Z2 : n0 ≤ h2.size := Nat.le_trans Z0 (Keep.of_wr W2).1
  have KK2 : Keep h0 h2 [a, t] := ((Keep.refl h0 [a, t])).wr W2 (Or.inl (List.mem_of_getElem? (i := 0) rfl))
  refine Done.st (B := T2.setTop (mkF m 10 #[.val (.ref a), .val (.ref el)] [])) (fun _ k => st2 _ k) ?_
  refine Done.st (B := T2.setTop (mkF m 11 #[.val (.ref a), .val (.ref el)] [(.ref a)])) (fun _ k => XS.aloadN X2.here hx rfl (hb hby d8_10) rfl rfl k) ?_
  refine Done.st (B := T2.setTop (mkF m 12 #[.val (.ref a), .val (.ref el)] [(.ref el), (.ref a)])) (fun _ k => XS.aloadN X2.here hx rfl (hb hby d8_11) rfl rfl k) ?_
  refine Done.st (B := T2.setTop (mkF m 13 #[.val (.ref a), .val (.ref el)] [(.ref a), (.ref el), (.ref a)])) (fun _ k => XS.aloadN X2.here hx rfl (hb hby d8_12) rfl rfl k) ?_
  have c4 := (Fld.other W2 Fe (Or.inr (slot_ne (Or.inl (hw _ (List.mem_of_getElem? (i := 26) rfl))) (Or.inl (hw _ (List.mem_of_getElem? (i := 23) rfl))) (by decide) (t := (.array (.object "java/lang/Object"))) (t' := .int) (by decide) (by decide))))
  obtain ⟨T3, X3, e3, st3⟩ := getF X2 hx hZ hown (host := "") (Or.inl (hw _ (List.mem_of_getElem? (i := 25) rfl))) Via.refl e2 c4 (g := (mkF m 13 #[.val (.ref a), .val (.ref el)] [(.ref a), (.ref el), (.ref a)])) rfl rfl (hb hby d8_13)
  refine Done.st (B := T3.setTop (mkF m 16 #[.val (.ref a), .val (.ref el)] [(.ref t), (.ref el), (.ref a)])) (fun _ k => st3 _ k) ?_
  refine Done.st (B := T3.setTop (mkF m 17 #[.val (.ref a), .val (.ref el)] [(.ref a), (.ref t), (.ref el), (.ref a)])) (fun _ k => XS.aloadN X3.here hx rfl (hb hby d8_16) rfl rfl k) ?_
  have c6 := (Fld.other W2 Fs (Or.inr (slot_ne (Or.inl (hw _ (List.mem_of_getElem? (i := 44) rfl))) (Or.inl (hw _ (List.mem_of_getElem? (i := 23) rfl))) (by decide) (t := .int) (t' := .int) (by decide) (by decide))))
  obtain ⟨T5, X5, e5, st5⟩ := getF X3 hx hZ hown (host := "") (Or.inl (hw _ (List.mem_of_getElem? (i := 43) rfl))) Via.refl e3 c6 (g := (mkF m 17 #[.val (.ref a), .val (.ref el)] [(.ref a), (.ref t), (.ref el), (.ref a)])) rfl rfl (hb hby d8_17)
  refine Done.st (B := T5.setTop (mkF m 20 #[.val (.ref a), .val (.ref el)] [(.int (1 : Int32)), (.ref t), (.ref el), (.ref a)])) (fun _ k => st5 _ k) ?_
  have c7 := (Exa.wr W2 Ea)
  have c8 := (V_t.other W2 (Ne.symm nat))
  have c9 := (Exa.wr W2 Ee)
  obtain ⟨cq10, q10, q10'⟩ := c7.cell
  obtain ⟨_, _, ⟨T10, L10, k10, n10⟩, -, X10, ⟨Lc10, hQ10, l10, y10, z10⟩, st10⟩ := X5.privateBack hx (y := (⟨"java/util/ArrayList", "add", "(Ljava/lang/Object;[Ljava/lang/Object;I)V"⟩ : MethodName)) hown (mvT hZ (hw _ (List.mem_of_getElem? (i := 61) rfl))) (mvT hZ (hw _ (List.mem_of_getElem? (i := 62) rfl))) (mvT hZ (hw _ (List.mem_of_getElem? (i := 64) rfl))) (Cond.privateMethod_at (mvP hZ (hw _ (List.mem_of_getElem? (i := 63) rfl)) (args := #[]))) (mvT hZ (hw _ (List.mem_of_getElem? (i := 65) rfl))) (by decide) (backOf (W := 0) (rmA3_1 l Z a0 hw [] a el t (mc + (1 : Int32)) kt el0 h2 n0 Z2 c7 F2 c4 c6 ga c8 O_t gt nat c9) hZ (hw _ (List.mem_of_getElem? (i := 65) rfl)) (hw _ (List.mem_of_getElem? (i := 3) rfl)) (by decide) (by decide)) (g := (mkF m 20 #[.val (.ref a), .val (.ref el)] [(.int (1 : Int32)), (.ref t), (.ref el), (.ref a)])) rfl (by rw [hml]; rfl) (Steps.refl _) (a := a) (by rw [e5]; exact q10) q10' (argsL := [(.ref el), (.ref t), (.int (1 : Int32))]) (rest := []) (lenOf pd_4 rfl) rfl (by show 2 * 0 + _ ≤ _; exact Nat.le_of_eq rfl) (hb hby d8_20) (fun _ _ => ⟨rfl, e5, (by decide : 0 + 0 ≤ _), (by decide : 0 + 0 ≤ _)⟩)
  dsimp only [Pt.U, Pt.locs, Pt.cells, Pt.slots] at X10 l10 y10 z10 st10 hQ10
  subst l10 y10 z10
  obtain ⟨rfl, N10q, K10, f10_0, f10_1, f10_2, f10_3, f10_4⟩ := hQ10
  have N10 := Fr.app N2 N10q
  have Z10 : n0 ≤ T10.heap.size := Nat.le_trans Z2 K10.1
  have KK10 : Keep h0 T10.heap [a, t] := (KK2).trans K10 (allS (Or.inl (List.mem_of_getElem? (i := 0) rfl)) (allS (Or.inl (List.mem_of_getElem? (i := 1) rfl)) all0))
  refine Done.st (B := T10.setTop (mkF m 23 #[.val (.ref a), .val (.ref el)] [])) (fun _ k => st10.trans k) ?_
  refine Done.st (B := T10.setTop (mkF m 24 #[.val (.ref a), .val (.ref el)] [(.int (1 : Int32))])) (fun _ k => XS.iconst X10.here hx rfl (hb hby d8_23) k) ?_
  obtain ⟨fs, hr, hrun, hended, hW, hsame⟩ := X10.leave (v := some (.int (1 : Int32))) (hlocks := hlk) (fun h => by rw [Bd.returns] at h; cases h)
  refine Done.fin (retN X10 hx (t := .boolean) Bd.returns (by simp) (hb hby d8_24) hr) hrun hended ⟨_, _, rfl, ?_, ⟨_, rfl⟩, hW, hsame.mono (by decide) (by decide)⟩
  show QrmA1_1 Z a el t mc kt el0 h0 n0 _ T10.heap _
  exact ⟨rfl, N10, KK10, f10_0, f10_1, f10_2, f10_3, f10_4⟩
theorem ef_rmA3_2 (m : MethodId) (a : Addr) (el : Addr) (t : Addr) : entryFrame m #[(.ref a), (.ref el), (.ref t), (.int (2 : Int32))] 4 = mkF m 0 #[.val (.ref a), .val (.ref el), .val (.ref t), .val (.int (2 : Int32))] [] := by first | (simp [entryFrame, mkF, argsToLocals, Value.category]; done) | rfl
def QrmA3_2 (Z : State) (a : Addr) (el : Addr) (t : Addr) (mc : Int32) (kt : ClassId) (el0 : Addr) (el1 : Addr) (h0 : Heap) (n0 : Nat) (v : Option Value) (h : Heap) (L : List Loc) : Prop := v = none ∧ Fr n0 L ∧ Keep h0 h [a, t] ∧ Exa Z h a "java/util/ArrayList" ∧ Fld Z h a "java/util/AbstractList" "modCount" "I" (.int mc) ∧ Fld Z h a "java/util/ArrayList" "elementData" "[Ljava/lang/Object;" (.ref t) ∧ Fld Z h a "java/util/ArrayList" "size" "I" (.int (3 : Int32)) ∧ Arv Z h t kt (.object "java/lang/Object") (10 : Int32) [(.ref el0), (.ref el1), (.ref el), .null, .null, .null, .null, .null, .null, .null] .null
def PrmA3_2 (s : State) (Z : State) (a : Addr) (el : Addr) (t : Addr) (mc : Int32) (kt : ClassId) (el0 : Addr) (el1 : Addr) (h0 : Heap) (n0 : Nat) : State → Outcome → Prop := fun U' o => ∃ v L, o = .returned v ∧ QrmA3_2 Z a el t mc kt el0 el1 h0 n0 v U'.heap L ∧ FrameEnd s o U' L ({ frames := 0, cells := 0, slots := 0, locals := 0 } : Room).cells ({ frames := 0, cells := 0, slots := 0, locals := 0 } : Room).slots
set_option maxRecDepth 65536 in
set_option maxHeartbeats 40000000 in
theorem rmA3_2 (l : Launch) (Z : State) (a0 : Array Value) (hw : ∀ d ∈ tables_1, d.before a0 Z = true) (ws : List Jvm.Cond) (a : Addr) (el : Addr) (t : Addr) (mc : Int32) (kt : ClassId) (el0 : Addr) (el1 : Addr) (h0 : Heap) (n0 : Nat) (Z0 : n0 ≤ h0.size) (Ea : Exa Z h0 a "java/util/ArrayList") (Fm : Fld Z h0 a "java/util/AbstractList" "modCount" "I" (.int mc)) (Fe : Fld Z h0 a "java/util/ArrayList" "elementData" "[Ljava/lang/Object;" (.ref t)) (Fs : Fld Z h0 a "java/util/ArrayList" "size" "I" (.int (2 : Int32))) (ga : n0 ≤ a) (V_t : Arv Z h0 t kt (.object "java/lang/Object") (10 : Int32) [(.ref el0), (.ref el1), .null, .null, .null, .null, .null, .null, .null, .null] .null) (O_t : Ovr Z kt "java/lang/Object") (gt : n0 ≤ t) (nat : a ≠ t) (Ee : Exa Z h0 el "[I") :
    MetFree l (⟨"java/util/ArrayList", "add", "(Ljava/lang/Object;[Ljava/lang/Object;I)V"⟩ : MethodName) (head1 (Jvm.Cond.code (⟨"java/util/ArrayList", "add", "(Ljava/lang/Object;[Ljava/lang/Object;I)V"⟩ : MethodName) jdk_38_method_24_code 4 none :: ws) ({ frames := 0, cells := 0, slots := 0, locals := 0 } : Room)) (fun aa U => aa = #[(.ref a), (.ref el), (.ref t), (.int (2 : Int32))] ∧ Z.Warmed39 U.vm ∧ U.heap = h0) (fun _ _ _ _ _ => True) (fun _ U o U' => ∃ v L, o = .returned v ∧ QrmA3_2 Z a el t mc kt el0 el1 h0 n0 v U'.heap L ∧ FrameEnd U o U' L ({ frames := 0, cells := 0, slots := 0, locals := 0 } : Room).cells ({ frames := 0, cells := 0, slots := 0, locals := 0 } : Room).slots) := by
  refine MetFree.of_bodySF (plainFor_of_name pn_2) hisR ?_
  intro p e s m args below meth c s₁ Bd hml0 hP hK
  obtain ⟨rfl, hZ, hh⟩ := hP
  have hx := Bd.exec
  have hlk : meth.locks = false := by first | exact BodyLoose.notSynchronized Bd | exact Body.notSynchronized Bd
  have hby := Bd.bytes
  have hml : c.maxLocals = 4 := hml0
  have hown : s.vm.findClass "java/util/ArrayList" = some m.cls := findClass_of_methodNamed Bd.named
  have hnm := (name_of_methodNamed Bd.named Bd.method).1
  have X0 : Stand p l e ({ frames := 0, cells := 0, slots := 0, locals := 0 } : Room) s m #[(.ref a), (.ref el), (.ref t), (.int (2 : Int32))] below meth c s₁ [] 0 0 := Stand.of_body Bd
  have e0 : s₁.heap = h0 := by rw [← hh, Bd.state]; rfl
  have N0 := Fr.nil n0
  show Done p e below (PrmA3_2 s Z a el t mc kt el0 el1 h0 n0) (s₁.setTop (entryFrame m #[(.ref a), (.ref el), (.ref t), (.int (2 : Int32))] 4))
  refine Done.st (B := s₁.setTop (mkF m 0 #[.val (.ref a), .val (.ref el), .val (.ref t), .val (.int (2 : Int32))] [])) (fun _ k => castTop (ef_rmA3_2 m a el t) k) ?_
  refine Done.st (B := s₁.setTop (mkF m 1 #[.val (.ref a), .val (.ref el), .val (.ref t), .val (.int (2 : Int32))] [(.int (2 : Int32))])) (fun _ k => XS.iloadN X0.here hx rfl (hb hby d9_0) rfl k) ?_
  refine Done.st (B := s₁.setTop (mkF m 2 #[.val (.ref a), .val (.ref el), .val (.ref t), .val (.int (2 : Int32))] [(.ref t), (.int (2 : Int32))])) (fun _ k => XS.aloadN X0.here hx rfl (hb hby d9_1) rfl rfl k) ?_
  obtain ⟨cl1, Ar1, q1, S1, M1, -⟩ := id V_t
  refine Done.st (B := s₁.setTop (mkF m 3 #[.val (.ref a), .val (.ref el), .val (.ref t), .val (.int (2 : Int32))] [(.int (10 : Int32)), (.int (2 : Int32))])) (fun _ k => X0.arraylength hx (by rw [e0]; exact Ar1.1) (State.isArrayOf_alike hZ.alike Ar1.2.1) (g := (mkF m 2 #[.val (.ref a), .val (.ref el), .val (.ref t), .val (.int (2 : Int32))] [(.ref t), (.int (2 : Int32))])) rfl rfl (hb hby d9_2) _ (by rw [len_of S1 M1]; exact k)) ?_
  refine Done.st (B := s₁.setTop (mkF m 11 #[.val (.ref a), .val (.ref el), .val (.ref t), .val (.int (2 : Int32))] [])) (fun _ k => XS.icmpYes X0.here hx rfl (pc0 := 3) (pc' := 11) rfl (hb hby d9_3) rfl (feq (by decide : ¬ ((2 : Int32) = (10 : Int32)))).2 (by decide) (by decide) k) ?_
  refine Done.st (B := s₁.setTop (mkF m 12 #[.val (.ref a), .val (.ref el), .val (.ref t), .val (.int (2 : Int32))] [(.ref t)])) (fun _ k => XS.aloadN X0.here hx rfl (hb hby d9_11) rfl rfl k) ?_
  refine Done.st (B := s₁.setTop (mkF m 13 #[.val (.ref a), .val (.ref el), .val (.ref t), .val (.int (2 : Int32))] [(.int (2 : Int32)), (.ref t)])) (fun _ k => XS.iloadN X0.here hx rfl (hb hby d9_12) rfl k) ?_
  refine Done.st (B := s₁.setTop (mkF m 14 #[.val (.ref a), .val (.ref el), .val (.ref t), .val (.int (2 : Int32))] [(.ref el), (.int (2 : Int32)), (.ref t)])) (fun _ k => XS.aloadN X0.here hx rfl (hb hby d9_13) rfl rfl k) ?_
  obtain ⟨cl2, Ar2, q2, S2, M2, H2, G2⟩ := id V_t
  have hin2 : ¬ ((2 : Int32) < 0 ∨ cl2.slots.size ≤ ((2 : Int32)).toNatClampNeg) := inb_of S2 ⟨by decide, by decide⟩
  obtain ⟨T2, h2, X2, e2, W2, st2⟩ := stR X0 hx hZ e0 Ar2 (j := (2 : Int32)) hin2 rfl (Sto.ofV Ar2 q2 O_t (Ins.of_exa Ee (hw _ (List.mem_of_getElem? (i := 82) rfl)))) (g := (mkF m 14 #[.val (.ref a), .val (.ref el), .val (.ref t), .val (.int (2 : Int32))] [(.ref el), (.int (2 : Int32)), (.ref t)])) rfl rfl (hb hby d9_14)
  have V2 : Arv Z h2 t kt (.object "java/lang/Object") (10 : Int32) [(.ref el0), (.ref el1), (.ref el), .null, .null, .null, .null, .null, .null, .null] .null := Arv.set Ar2 q2 S2 M2 H2 G2 rfl W2 2 rfl (Nat.le_of_ble_eq_true rfl)
  have N2 := Fr.snoc X2 N0 gt
  have Z2 : n0 ≤ h2.size := Nat.le_trans Z0 (Keep.of_wr W2).1
  have KK2 : Keep h0 h2 [a, t] := ((Keep.refl h0 [a, t])).wr W2 (Or.inl (List.mem_of_getElem? (i := 1) rfl))
  refine Done.st (B := T2.setTop (mkF m 15 #[.val (.ref a), .val (.ref el), .val (.ref t), .val (.int (2 : Int32))] [])) (fun _ k => st2 _ k) ?_
  refine Done.st (B := T2.setTop (mkF m 16 #[.val (.ref a), .val (.ref el), .val (.ref t), .val (.int (2 : Int32))] [(.ref a)])) (fun _ k => XS.aloadN X2.here hx rfl (hb hby d9_15) rfl rfl k) ?_
  refine Done.st (B := T2.setTop (mkF m 17 #[.val (.ref a), .val (.ref el), .val (.ref t), .val (.int (2 : Int32))] [(.int (2 : Int32)), (.ref a)])) (fun _ k => XS.iloadN X2.here hx rfl (hb hby d9_16) rfl k) ?_
  refine Done.st (B := T2.setTop (mkF m 18 #[.val (.ref a), .val (.ref el), .val (.ref t), .val (.int (2 : Int32))] [(.int (1 : Int32)), (.int (2 : Int32)), (.ref a)])) (fun _ k => XS.iconst X2.here hx rfl (hb hby d9_17) k) ?_
  refine Done.st (B := T2.setTop (mkF m 19 #[.val (.ref a), .val (.ref el), .val (.ref t), .val (.int (2 : Int32))] [(.int (3 : Int32)), (.ref a)])) (fun _ k => XS.iadd X2.here hx rfl (hb hby d9_18) rfl k) ?_
  have c3 := (Exa.wr W2 Ea)
  have c4 := (Fld.other W2 Fs (Or.inl nat))
  obtain ⟨T5, h5, X5, e5, W5, st5⟩ := putF X2 hx hZ hown (host := "") (Or.inl (hw _ (List.mem_of_getElem? (i := 43) rfl))) Via.refl e2 c4 c3 (Or.inl (hw _ (List.mem_of_getElem? (i := 44) rfl))) (hw _ (List.mem_of_getElem? (i := 2) rfl)) (ty := .int) (by decide) rfl rfl (g := (mkF m 19 #[.val (.ref a), .val (.ref el), .val (.ref t), .val (.int (2 : Int32))] [(.int (3 : Int32)), (.ref a)])) rfl rfl (hb hby d9_19)
  have F5 := Fld.same W5 c4
  have N5 := Fr.snoc X5 N2 ga
  have Z5 : n0 ≤ h5.size := Nat.le_trans Z2 (Keep.of_wr W5).1
  have KK5 : Keep h0 h5 [a, t] := (KK2).wr W5 (Or.inl (List.mem_of_getElem? (i := 0) rfl))
  refine Done.st (B := T5.setTop (mkF m 22 #[.val (.ref a), .val (.ref el), .val (.ref t), .val (.int (2 : Int32))] [])) (fun _ k => st5 _ k) ?_
  obtain ⟨fs, hr, hrun, hended, hW, hsame⟩ := X5.leave (v := none) (hlocks := hlk) (fun _ => rfl)
  have c7 := (Exa.wr W5 c3)
  have c8 := (Fld.other W5 (Fld.other W2 Fm (Or.inl nat)) (Or.inr (slot_ne (Or.inl (hw _ (List.mem_of_getElem? (i := 23) rfl))) (Or.inl (hw _ (List.mem_of_getElem? (i := 44) rfl))) (by decide) (t := .int) (t' := .int) (by decide) (by decide))))
  have c9 := (Fld.other W5 (Fld.other W2 Fe (Or.inl nat)) (Or.inr (slot_ne (Or.inl (hw _ (List.mem_of_getElem? (i := 26) rfl))) (Or.inl (hw _ (List.mem_of_getElem? (i := 44) rfl))) (by decide) (t := (.array (.object "java/lang/Object"))) (t' := .int) (by decide) (by decide))))
  have c10 := (V2.other W5 (Ne.symm nat))
  refine Done.fin (X5.returnOut hx Bd.returns (hb hby d9_22) hr) hrun hended ⟨_, _, rfl, ?_, ⟨_, rfl⟩, hW, hsame.mono (by decide) (by decide)⟩
  show QrmA3_2 Z a el t mc kt el0 el1 h0 n0 _ T5.heap _
  rw [e5]
  exact ⟨rfl, N5, KK5, c7, c8, c9, F5, c10⟩
theorem ef_rmA1_2 (m : MethodId) (a : Addr) (el : Addr) : entryFrame m #[(.ref a), (.ref el)] 2 = mkF m 0 #[.val (.ref a), .val (.ref el)] [] := by first | (simp [entryFrame, mkF, argsToLocals, Value.category]; done) | rfl
def QrmA1_2 (Z : State) (a : Addr) (el : Addr) (t : Addr) (mc : Int32) (kt : ClassId) (el0 : Addr) (el1 : Addr) (h0 : Heap) (n0 : Nat) (v : Option Value) (h : Heap) (L : List Loc) : Prop := v = some (.int (1 : Int32)) ∧ Fr n0 L ∧ Keep h0 h [a, t] ∧ Exa Z h a "java/util/ArrayList" ∧ Fld Z h a "java/util/AbstractList" "modCount" "I" (.int (mc + (1 : Int32))) ∧ Fld Z h a "java/util/ArrayList" "elementData" "[Ljava/lang/Object;" (.ref t) ∧ Fld Z h a "java/util/ArrayList" "size" "I" (.int (3 : Int32)) ∧ Arv Z h t kt (.object "java/lang/Object") (10 : Int32) [(.ref el0), (.ref el1), (.ref el), .null, .null, .null, .null, .null, .null, .null] .null
def PrmA1_2 (s : State) (Z : State) (a : Addr) (el : Addr) (t : Addr) (mc : Int32) (kt : ClassId) (el0 : Addr) (el1 : Addr) (h0 : Heap) (n0 : Nat) : State → Outcome → Prop := fun U' o => ∃ v L, o = .returned v ∧ QrmA1_2 Z a el t mc kt el0 el1 h0 n0 v U'.heap L ∧ FrameEnd s o U' L ({ frames := 1, cells := 0, slots := 0, locals := 15 } : Room).cells ({ frames := 1, cells := 0, slots := 0, locals := 15 } : Room).slots
set_option maxRecDepth 65536 in
set_option maxHeartbeats 40000000 in
theorem rmA1_2 (l : Launch) (Z : State) (a0 : Array Value) (hw : ∀ d ∈ tables_1, d.before a0 Z = true) (ws : List Jvm.Cond) (a : Addr) (el : Addr) (t : Addr) (mc : Int32) (kt : ClassId) (el0 : Addr) (el1 : Addr) (h0 : Heap) (n0 : Nat) (Z0 : n0 ≤ h0.size) (Ea : Exa Z h0 a "java/util/ArrayList") (Fm : Fld Z h0 a "java/util/AbstractList" "modCount" "I" (.int mc)) (Fe : Fld Z h0 a "java/util/ArrayList" "elementData" "[Ljava/lang/Object;" (.ref t)) (Fs : Fld Z h0 a "java/util/ArrayList" "size" "I" (.int (2 : Int32))) (ga : n0 ≤ a) (V_t : Arv Z h0 t kt (.object "java/lang/Object") (10 : Int32) [(.ref el0), (.ref el1), .null, .null, .null, .null, .null, .null, .null, .null] .null) (O_t : Ovr Z kt "java/lang/Object") (gt : n0 ≤ t) (nat : a ≠ t) (Ee : Exa Z h0 el "[I") :
    MetFree l (⟨"java/util/ArrayList", "add", "(Ljava/lang/Object;)Z"⟩ : MethodName) (head1 (Jvm.Cond.code (⟨"java/util/ArrayList", "add", "(Ljava/lang/Object;)Z"⟩ : MethodName) jdk_38_method_25_code 2 (some .boolean) :: ws) ({ frames := 1, cells := 0, slots := 0, locals := 15 } : Room)) (fun aa U => aa = #[(.ref a), (.ref el)] ∧ Z.Warmed39 U.vm ∧ U.heap = h0) (fun _ _ _ _ _ => True) (fun _ U o U' => ∃ v L, o = .returned v ∧ QrmA1_2 Z a el t mc kt el0 el1 h0 n0 v U'.heap L ∧ FrameEnd U o U' L ({ frames := 1, cells := 0, slots := 0, locals := 15 } : Room).cells ({ frames := 1, cells := 0, slots := 0, locals := 15 } : Room).slots) := by
  refine MetFree.of_bodySF (plainFor_of_name pn_2) hisR ?_
  intro p e s m args below meth c s₁ Bd hml0 hP hK
  obtain ⟨rfl, hZ, hh⟩ := hP
  have hx := Bd.exec
  have hlk : meth.locks = false := by first | exact BodyLoose.notSynchronized Bd | exact Body.notSynchronized Bd
  have hby := Bd.bytes
  have hml : c.maxLocals = 2 := hml0
  have hown : s.vm.findClass "java/util/ArrayList" = some m.cls := findClass_of_methodNamed Bd.named
  have hnm := (name_of_methodNamed Bd.named Bd.method).1
  have X0 : Stand p l e ({ frames := 1, cells := 0, slots := 0, locals := 15 } : Room) s m #[(.ref a), (.ref el)] below meth c s₁ [] 0 0 := Stand.of_body Bd
  have e0 : s₁.heap = h0 := by rw [← hh, Bd.state]; rfl
  have N0 := Fr.nil n0
  show Done p e below (PrmA1_2 s Z a el t mc kt el0 el1 h0 n0) (s₁.setTop (entryFrame m #[(.ref a), (.ref el)] 2))
  refine Done.st (B := s₁.setTop (mkF m 0 #[.val (.ref a), .val (.ref el)] [])) (fun _ k => castTop (ef_rmA1_2 m a el) k) ?_
  refine Done.st (B := s₁.setTop (mkF m 1 #[.val (.ref a), .val (.ref el)] [(.ref a)])) (fun _ k => XS.aloadN X0.here hx rfl (hb hby d8_0) rfl rfl k) ?_
  refine Done.st (B := s₁.setTop (mkF m 2 #[.val (.ref a), .val (.ref el)] [(.ref a), (.ref a)])) (fun _ k => XS.dup X0.here hx rfl (hb hby d8_1) rfl rfl k) ?_
  obtain ⟨T1, X1, e1, st1⟩ := getF X0 hx hZ hown (host := "") (Or.inl (hw _ (List.mem_of_getElem? (i := 59) rfl))) (Via.of (hw _ (List.mem_of_getElem? (i := 60) rfl))) e0 Fm (g := (mkF m 2 #[.val (.ref a), .val (.ref el)] [(.ref a), (.ref a)])) rfl rfl (hb hby d8_2)
  refine Done.st (B := T1.setTop (mkF m 5 #[.val (.ref a), .val (.ref el)] [(.int mc), (.ref a)])) (fun _ k => st1 _ k) ?_
  refine Done.st (B := T1.setTop (mkF m 6 #[.val (.ref a), .val (.ref el)] [(.int (1 : Int32)), (.int mc), (.ref a)])) (fun _ k => XS.iconst X1.here hx rfl (hb hby d8_5) k) ?_
  refine Done.st (B := T1.setTop (mkF m 7 #[.val (.ref a), .val (.ref el)] [(.int (mc + (1 : Int32))), (.ref a)])) (fun _ k => XS.iadd X1.here hx rfl (hb hby d8_6) rfl k) ?_
  obtain ⟨T2, h2, X2, e2, W2, st2⟩ := putF X1 hx hZ hown (host := "") (Or.inl (hw _ (List.mem_of_getElem? (i := 59) rfl))) (Via.of (hw _ (List.mem_of_getElem? (i := 60) rfl))) e1 Fm Ea (Or.inl (hw _ (List.mem_of_getElem? (i := 23) rfl))) (hw _ (List.mem_of_getElem? (i := 2) rfl)) (ty := .int) (by decide) rfl rfl (g := (mkF m 7 #[.val (.ref a), .val (.ref el)] [(.int (mc + (1 : Int32))), (.ref a)])) rfl rfl (hb hby d8_7)
  have F2 := Fld.same W2 Fm
  have N2 := Fr.snoc X2 N0 ga
  have Z2 : n0 ≤ h2.size := Nat.le_trans Z0 (Keep.of_wr W2).1
  have KK2 : Keep h0 h2 [a, t] := ((Keep.refl h0 [a, t])).wr W2 (Or.inl (List.mem_of_getElem? (i := 0) rfl))
  refine Done.st (B := T2.setTop (mkF m 10 #[.val (.ref a), .val (.ref el)] [])) (fun _ k => st2 _ k) ?_
  refine Done.st (B := T2.setTop (mkF m 11 #[.val (.ref a), .val (.ref el)] [(.ref a)])) (fun _ k => XS.aloadN X2.here hx rfl (hb hby d8_10) rfl rfl k) ?_
  refine Done.st (B := T2.setTop (mkF m 12 #[.val (.ref a), .val (.ref el)] [(.ref el), (.ref a)])) (fun _ k => XS.aloadN X2.here hx rfl (hb hby d8_11) rfl rfl k) ?_
  refine Done.st (B := T2.setTop (mkF m 13 #[.val (.ref a), .val (.ref el)] [(.ref a), (.ref el), (.ref a)])) (fun _ k => XS.aloadN X2.here hx rfl (hb hby d8_12) rfl rfl k) ?_
  have c4 := (Fld.other W2 Fe (Or.inr (slot_ne (Or.inl (hw _ (List.mem_of_getElem? (i := 26) rfl))) (Or.inl (hw _ (List.mem_of_getElem? (i := 23) rfl))) (by decide) (t := (.array (.object "java/lang/Object"))) (t' := .int) (by decide) (by decide))))
  obtain ⟨T3, X3, e3, st3⟩ := getF X2 hx hZ hown (host := "") (Or.inl (hw _ (List.mem_of_getElem? (i := 25) rfl))) Via.refl e2 c4 (g := (mkF m 13 #[.val (.ref a), .val (.ref el)] [(.ref a), (.ref el), (.ref a)])) rfl rfl (hb hby d8_13)
  refine Done.st (B := T3.setTop (mkF m 16 #[.val (.ref a), .val (.ref el)] [(.ref t), (.ref el), (.ref a)])) (fun _ k => st3 _ k) ?_
  refine Done.st (B := T3.setTop (mkF m 17 #[.val (.ref a), .val (.ref el)] [(.ref a), (.ref t), (.ref el), (.ref a)])) (fun _ k => XS.aloadN X3.here hx rfl (hb hby d8_16) rfl rfl k) ?_
  have c6 := (Fld.other W2 Fs (Or.inr (slot_ne (Or.inl (hw _ (List.mem_of_getElem? (i := 44) rfl))) (Or.inl (hw _ (List.mem_of_getElem? (i := 23) rfl))) (by decide) (t := .int) (t' := .int) (by decide) (by decide))))
  obtain ⟨T5, X5, e5, st5⟩ := getF X3 hx hZ hown (host := "") (Or.inl (hw _ (List.mem_of_getElem? (i := 43) rfl))) Via.refl e3 c6 (g := (mkF m 17 #[.val (.ref a), .val (.ref el)] [(.ref a), (.ref t), (.ref el), (.ref a)])) rfl rfl (hb hby d8_17)
  refine Done.st (B := T5.setTop (mkF m 20 #[.val (.ref a), .val (.ref el)] [(.int (2 : Int32)), (.ref t), (.ref el), (.ref a)])) (fun _ k => st5 _ k) ?_
  have c7 := (Exa.wr W2 Ea)
  have c8 := (V_t.other W2 (Ne.symm nat))
  have c9 := (Exa.wr W2 Ee)
  obtain ⟨cq10, q10, q10'⟩ := c7.cell
  obtain ⟨_, _, ⟨T10, L10, k10, n10⟩, -, X10, ⟨Lc10, hQ10, l10, y10, z10⟩, st10⟩ := X5.privateBack hx (y := (⟨"java/util/ArrayList", "add", "(Ljava/lang/Object;[Ljava/lang/Object;I)V"⟩ : MethodName)) hown (mvT hZ (hw _ (List.mem_of_getElem? (i := 61) rfl))) (mvT hZ (hw _ (List.mem_of_getElem? (i := 62) rfl))) (mvT hZ (hw _ (List.mem_of_getElem? (i := 64) rfl))) (Cond.privateMethod_at (mvP hZ (hw _ (List.mem_of_getElem? (i := 63) rfl)) (args := #[]))) (mvT hZ (hw _ (List.mem_of_getElem? (i := 65) rfl))) (by decide) (backOf (W := 0) (rmA3_2 l Z a0 hw [] a el t (mc + (1 : Int32)) kt el0 el1 h2 n0 Z2 c7 F2 c4 c6 ga c8 O_t gt nat c9) hZ (hw _ (List.mem_of_getElem? (i := 65) rfl)) (hw _ (List.mem_of_getElem? (i := 3) rfl)) (by decide) (by decide)) (g := (mkF m 20 #[.val (.ref a), .val (.ref el)] [(.int (2 : Int32)), (.ref t), (.ref el), (.ref a)])) rfl (by rw [hml]; rfl) (Steps.refl _) (a := a) (by rw [e5]; exact q10) q10' (argsL := [(.ref el), (.ref t), (.int (2 : Int32))]) (rest := []) (lenOf pd_4 rfl) rfl (by show 2 * 0 + _ ≤ _; exact Nat.le_of_eq rfl) (hb hby d8_20) (fun _ _ => ⟨rfl, e5, (by decide : 0 + 0 ≤ _), (by decide : 0 + 0 ≤ _)⟩)
  dsimp only [Pt.U, Pt.locs, Pt.cells, Pt.slots] at X10 l10 y10 z10 st10 hQ10
  subst l10 y10 z10
  obtain ⟨rfl, N10q, K10, f10_0, f10_1, f10_2, f10_3, f10_4⟩ := hQ10
  have N10 := Fr.app N2 N10q
  have Z10 : n0 ≤ T10.heap.size := Nat.le_trans Z2 K10.1
  have KK10 : Keep h0 T10.heap [a, t] := (KK2).trans K10 (allS (Or.inl (List.mem_of_getElem? (i := 0) rfl)) (allS (Or.inl (List.mem_of_getElem? (i := 1) rfl)) all0))
  refine Done.st (B := T10.setTop (mkF m 23 #[.val (.ref a), .val (.ref el)] [])) (fun _ k => st10.trans k) ?_
  refine Done.st (B := T10.setTop (mkF m 24 #[.val (.ref a), .val (.ref el)] [(.int (1 : Int32))])) (fun _ k => XS.iconst X10.here hx rfl (hb hby d8_23) k) ?_
  obtain ⟨fs, hr, hrun, hended, hW, hsame⟩ := X10.leave (v := some (.int (1 : Int32))) (hlocks := hlk) (fun h => by rw [Bd.returns] at h; cases h)
  refine Done.fin (retN X10 hx (t := .boolean) Bd.returns (by simp) (hb hby d8_24) hr) hrun hended ⟨_, _, rfl, ?_, ⟨_, rfl⟩, hW, hsame.mono (by decide) (by decide)⟩
  show QrmA1_2 Z a el t mc kt el0 el1 h0 n0 _ T10.heap _
  exact ⟨rfl, N10, KK10, f10_0, f10_1, f10_2, f10_3, f10_4⟩
theorem ef_rmA3_3 (m : MethodId) (a : Addr) (el : Addr) (t : Addr) : entryFrame m #[(.ref a), (.ref el), (.ref t), (.int (3 : Int32))] 4 = mkF m 0 #[.val (.ref a), .val (.ref el), .val (.ref t), .val (.int (3 : Int32))] [] := by first | (simp [entryFrame, mkF, argsToLocals, Value.category]; done) | rfl
def QrmA3_3 (Z : State) (a : Addr) (el : Addr) (t : Addr) (mc : Int32) (kt : ClassId) (el0 : Addr) (el1 : Addr) (el2 : Addr) (h0 : Heap) (n0 : Nat) (v : Option Value) (h : Heap) (L : List Loc) : Prop := v = none ∧ Fr n0 L ∧ Keep h0 h [a, t] ∧ Exa Z h a "java/util/ArrayList" ∧ Fld Z h a "java/util/AbstractList" "modCount" "I" (.int mc) ∧ Fld Z h a "java/util/ArrayList" "elementData" "[Ljava/lang/Object;" (.ref t) ∧ Fld Z h a "java/util/ArrayList" "size" "I" (.int (4 : Int32)) ∧ Arv Z h t kt (.object "java/lang/Object") (10 : Int32) [(.ref el0), (.ref el1), (.ref el2), (.ref el), .null, .null, .null, .null, .null, .null] .null
def PrmA3_3 (s : State) (Z : State) (a : Addr) (el : Addr) (t : Addr) (mc : Int32) (kt : ClassId) (el0 : Addr) (el1 : Addr) (el2 : Addr) (h0 : Heap) (n0 : Nat) : State → Outcome → Prop := fun U' o => ∃ v L, o = .returned v ∧ QrmA3_3 Z a el t mc kt el0 el1 el2 h0 n0 v U'.heap L ∧ FrameEnd s o U' L ({ frames := 0, cells := 0, slots := 0, locals := 0 } : Room).cells ({ frames := 0, cells := 0, slots := 0, locals := 0 } : Room).slots
set_option maxRecDepth 65536 in
set_option maxHeartbeats 40000000 in
theorem rmA3_3 (l : Launch) (Z : State) (a0 : Array Value) (hw : ∀ d ∈ tables_1, d.before a0 Z = true) (ws : List Jvm.Cond) (a : Addr) (el : Addr) (t : Addr) (mc : Int32) (kt : ClassId) (el0 : Addr) (el1 : Addr) (el2 : Addr) (h0 : Heap) (n0 : Nat) (Z0 : n0 ≤ h0.size) (Ea : Exa Z h0 a "java/util/ArrayList") (Fm : Fld Z h0 a "java/util/AbstractList" "modCount" "I" (.int mc)) (Fe : Fld Z h0 a "java/util/ArrayList" "elementData" "[Ljava/lang/Object;" (.ref t)) (Fs : Fld Z h0 a "java/util/ArrayList" "size" "I" (.int (3 : Int32))) (ga : n0 ≤ a) (V_t : Arv Z h0 t kt (.object "java/lang/Object") (10 : Int32) [(.ref el0), (.ref el1), (.ref el2), .null, .null, .null, .null, .null, .null, .null] .null) (O_t : Ovr Z kt "java/lang/Object") (gt : n0 ≤ t) (nat : a ≠ t) (Ee : Exa Z h0 el "[I") :
    MetFree l (⟨"java/util/ArrayList", "add", "(Ljava/lang/Object;[Ljava/lang/Object;I)V"⟩ : MethodName) (head1 (Jvm.Cond.code (⟨"java/util/ArrayList", "add", "(Ljava/lang/Object;[Ljava/lang/Object;I)V"⟩ : MethodName) jdk_38_method_24_code 4 none :: ws) ({ frames := 0, cells := 0, slots := 0, locals := 0 } : Room)) (fun aa U => aa = #[(.ref a), (.ref el), (.ref t), (.int (3 : Int32))] ∧ Z.Warmed39 U.vm ∧ U.heap = h0) (fun _ _ _ _ _ => True) (fun _ U o U' => ∃ v L, o = .returned v ∧ QrmA3_3 Z a el t mc kt el0 el1 el2 h0 n0 v U'.heap L ∧ FrameEnd U o U' L ({ frames := 0, cells := 0, slots := 0, locals := 0 } : Room).cells ({ frames := 0, cells := 0, slots := 0, locals := 0 } : Room).slots) := by
  refine MetFree.of_bodySF (plainFor_of_name pn_2) hisR ?_
  intro p e s m args below meth c s₁ Bd hml0 hP hK
  obtain ⟨rfl, hZ, hh⟩ := hP
  have hx := Bd.exec
  have hlk : meth.locks = false := by first | exact BodyLoose.notSynchronized Bd | exact Body.notSynchronized Bd
  have hby := Bd.bytes
  have hml : c.maxLocals = 4 := hml0
  have hown : s.vm.findClass "java/util/ArrayList" = some m.cls := findClass_of_methodNamed Bd.named
  have hnm := (name_of_methodNamed Bd.named Bd.method).1
  have X0 : Stand p l e ({ frames := 0, cells := 0, slots := 0, locals := 0 } : Room) s m #[(.ref a), (.ref el), (.ref t), (.int (3 : Int32))] below meth c s₁ [] 0 0 := Stand.of_body Bd
  have e0 : s₁.heap = h0 := by rw [← hh, Bd.state]; rfl
  have N0 := Fr.nil n0
  show Done p e below (PrmA3_3 s Z a el t mc kt el0 el1 el2 h0 n0) (s₁.setTop (entryFrame m #[(.ref a), (.ref el), (.ref t), (.int (3 : Int32))] 4))
  refine Done.st (B := s₁.setTop (mkF m 0 #[.val (.ref a), .val (.ref el), .val (.ref t), .val (.int (3 : Int32))] [])) (fun _ k => castTop (ef_rmA3_3 m a el t) k) ?_
  refine Done.st (B := s₁.setTop (mkF m 1 #[.val (.ref a), .val (.ref el), .val (.ref t), .val (.int (3 : Int32))] [(.int (3 : Int32))])) (fun _ k => XS.iloadN X0.here hx rfl (hb hby d9_0) rfl k) ?_
  refine Done.st (B := s₁.setTop (mkF m 2 #[.val (.ref a), .val (.ref el), .val (.ref t), .val (.int (3 : Int32))] [(.ref t), (.int (3 : Int32))])) (fun _ k => XS.aloadN X0.here hx rfl (hb hby d9_1) rfl rfl k) ?_
  obtain ⟨cl1, Ar1, q1, S1, M1, -⟩ := id V_t
  refine Done.st (B := s₁.setTop (mkF m 3 #[.val (.ref a), .val (.ref el), .val (.ref t), .val (.int (3 : Int32))] [(.int (10 : Int32)), (.int (3 : Int32))])) (fun _ k => X0.arraylength hx (by rw [e0]; exact Ar1.1) (State.isArrayOf_alike hZ.alike Ar1.2.1) (g := (mkF m 2 #[.val (.ref a), .val (.ref el), .val (.ref t), .val (.int (3 : Int32))] [(.ref t), (.int (3 : Int32))])) rfl rfl (hb hby d9_2) _ (by rw [len_of S1 M1]; exact k)) ?_
  refine Done.st (B := s₁.setTop (mkF m 11 #[.val (.ref a), .val (.ref el), .val (.ref t), .val (.int (3 : Int32))] [])) (fun _ k => XS.icmpYes X0.here hx rfl (pc0 := 3) (pc' := 11) rfl (hb hby d9_3) rfl (feq (by decide : ¬ ((3 : Int32) = (10 : Int32)))).2 (by decide) (by decide) k) ?_
  refine Done.st (B := s₁.setTop (mkF m 12 #[.val (.ref a), .val (.ref el), .val (.ref t), .val (.int (3 : Int32))] [(.ref t)])) (fun _ k => XS.aloadN X0.here hx rfl (hb hby d9_11) rfl rfl k) ?_
  refine Done.st (B := s₁.setTop (mkF m 13 #[.val (.ref a), .val (.ref el), .val (.ref t), .val (.int (3 : Int32))] [(.int (3 : Int32)), (.ref t)])) (fun _ k => XS.iloadN X0.here hx rfl (hb hby d9_12) rfl k) ?_
  refine Done.st (B := s₁.setTop (mkF m 14 #[.val (.ref a), .val (.ref el), .val (.ref t), .val (.int (3 : Int32))] [(.ref el), (.int (3 : Int32)), (.ref t)])) (fun _ k => XS.aloadN X0.here hx rfl (hb hby d9_13) rfl rfl k) ?_
  obtain ⟨cl2, Ar2, q2, S2, M2, H2, G2⟩ := id V_t
  have hin2 : ¬ ((3 : Int32) < 0 ∨ cl2.slots.size ≤ ((3 : Int32)).toNatClampNeg) := inb_of S2 ⟨by decide, by decide⟩
  obtain ⟨T2, h2, X2, e2, W2, st2⟩ := stR X0 hx hZ e0 Ar2 (j := (3 : Int32)) hin2 rfl (Sto.ofV Ar2 q2 O_t (Ins.of_exa Ee (hw _ (List.mem_of_getElem? (i := 82) rfl)))) (g := (mkF m 14 #[.val (.ref a), .val (.ref el), .val (.ref t), .val (.int (3 : Int32))] [(.ref el), (.int (3 : Int32)), (.ref t)])) rfl rfl (hb hby d9_14)
  have V2 : Arv Z h2 t kt (.object "java/lang/Object") (10 : Int32) [(.ref el0), (.ref el1), (.ref el2), (.ref el), .null, .null, .null, .null, .null, .null] .null := Arv.set Ar2 q2 S2 M2 H2 G2 rfl W2 3 rfl (Nat.le_of_ble_eq_true rfl)
  have N2 := Fr.snoc X2 N0 gt
  have Z2 : n0 ≤ h2.size := Nat.le_trans Z0 (Keep.of_wr W2).1
  have KK2 : Keep h0 h2 [a, t] := ((Keep.refl h0 [a, t])).wr W2 (Or.inl (List.mem_of_getElem? (i := 1) rfl))
  refine Done.st (B := T2.setTop (mkF m 15 #[.val (.ref a), .val (.ref el), .val (.ref t), .val (.int (3 : Int32))] [])) (fun _ k => st2 _ k) ?_
  refine Done.st (B := T2.setTop (mkF m 16 #[.val (.ref a), .val (.ref el), .val (.ref t), .val (.int (3 : Int32))] [(.ref a)])) (fun _ k => XS.aloadN X2.here hx rfl (hb hby d9_15) rfl rfl k) ?_
  refine Done.st (B := T2.setTop (mkF m 17 #[.val (.ref a), .val (.ref el), .val (.ref t), .val (.int (3 : Int32))] [(.int (3 : Int32)), (.ref a)])) (fun _ k => XS.iloadN X2.here hx rfl (hb hby d9_16) rfl k) ?_
  refine Done.st (B := T2.setTop (mkF m 18 #[.val (.ref a), .val (.ref el), .val (.ref t), .val (.int (3 : Int32))] [(.int (1 : Int32)), (.int (3 : Int32)), (.ref a)])) (fun _ k => XS.iconst X2.here hx rfl (hb hby d9_17) k) ?_
  refine Done.st (B := T2.setTop (mkF m 19 #[.val (.ref a), .val (.ref el), .val (.ref t), .val (.int (3 : Int32))] [(.int (4 : Int32)), (.ref a)])) (fun _ k => XS.iadd X2.here hx rfl (hb hby d9_18) rfl k) ?_
  have c3 := (Exa.wr W2 Ea)
  have c4 := (Fld.other W2 Fs (Or.inl nat))
  obtain ⟨T5, h5, X5, e5, W5, st5⟩ := putF X2 hx hZ hown (host := "") (Or.inl (hw _ (List.mem_of_getElem? (i := 43) rfl))) Via.refl e2 c4 c3 (Or.inl (hw _ (List.mem_of_getElem? (i := 44) rfl))) (hw _ (List.mem_of_getElem? (i := 2) rfl)) (ty := .int) (by decide) rfl rfl (g := (mkF m 19 #[.val (.ref a), .val (.ref el), .val (.ref t), .val (.int (3 : Int32))] [(.int (4 : Int32)), (.ref a)])) rfl rfl (hb hby d9_19)
  have F5 := Fld.same W5 c4
  have N5 := Fr.snoc X5 N2 ga
  have Z5 : n0 ≤ h5.size := Nat.le_trans Z2 (Keep.of_wr W5).1
  have KK5 : Keep h0 h5 [a, t] := (KK2).wr W5 (Or.inl (List.mem_of_getElem? (i := 0) rfl))
  refine Done.st (B := T5.setTop (mkF m 22 #[.val (.ref a), .val (.ref el), .val (.ref t), .val (.int (3 : Int32))] [])) (fun _ k => st5 _ k) ?_
  obtain ⟨fs, hr, hrun, hended, hW, hsame⟩ := X5.leave (v := none) (hlocks := hlk) (fun _ => rfl)
  have c7 := (Exa.wr W5 c3)
  have c8 := (Fld.other W5 (Fld.other W2 Fm (Or.inl nat)) (Or.inr (slot_ne (Or.inl (hw _ (List.mem_of_getElem? (i := 23) rfl))) (Or.inl (hw _ (List.mem_of_getElem? (i := 44) rfl))) (by decide) (t := .int) (t' := .int) (by decide) (by decide))))
  have c9 := (Fld.other W5 (Fld.other W2 Fe (Or.inl nat)) (Or.inr (slot_ne (Or.inl (hw _ (List.mem_of_getElem? (i := 26) rfl))) (Or.inl (hw _ (List.mem_of_getElem? (i := 44) rfl))) (by decide) (t := (.array (.object "java/lang/Object"))) (t' := .int) (by decide) (by decide))))
  have c10 := (V2.other W5 (Ne.symm nat))
  refine Done.fin (X5.returnOut hx Bd.returns (hb hby d9_22) hr) hrun hended ⟨_, _, rfl, ?_, ⟨_, rfl⟩, hW, hsame.mono (by decide) (by decide)⟩
  show QrmA3_3 Z a el t mc kt el0 el1 el2 h0 n0 _ T5.heap _
  rw [e5]
  exact ⟨rfl, N5, KK5, c7, c8, c9, F5, c10⟩
theorem ef_rmA1_3 (m : MethodId) (a : Addr) (el : Addr) : entryFrame m #[(.ref a), (.ref el)] 2 = mkF m 0 #[.val (.ref a), .val (.ref el)] [] := by first | (simp [entryFrame, mkF, argsToLocals, Value.category]; done) | rfl
def QrmA1_3 (Z : State) (a : Addr) (el : Addr) (t : Addr) (mc : Int32) (kt : ClassId) (el0 : Addr) (el1 : Addr) (el2 : Addr) (h0 : Heap) (n0 : Nat) (v : Option Value) (h : Heap) (L : List Loc) : Prop := v = some (.int (1 : Int32)) ∧ Fr n0 L ∧ Keep h0 h [a, t] ∧ Exa Z h a "java/util/ArrayList" ∧ Fld Z h a "java/util/AbstractList" "modCount" "I" (.int (mc + (1 : Int32))) ∧ Fld Z h a "java/util/ArrayList" "elementData" "[Ljava/lang/Object;" (.ref t) ∧ Fld Z h a "java/util/ArrayList" "size" "I" (.int (4 : Int32)) ∧ Arv Z h t kt (.object "java/lang/Object") (10 : Int32) [(.ref el0), (.ref el1), (.ref el2), (.ref el), .null, .null, .null, .null, .null, .null] .null
def PrmA1_3 (s : State) (Z : State) (a : Addr) (el : Addr) (t : Addr) (mc : Int32) (kt : ClassId) (el0 : Addr) (el1 : Addr) (el2 : Addr) (h0 : Heap) (n0 : Nat) : State → Outcome → Prop := fun U' o => ∃ v L, o = .returned v ∧ QrmA1_3 Z a el t mc kt el0 el1 el2 h0 n0 v U'.heap L ∧ FrameEnd s o U' L ({ frames := 1, cells := 0, slots := 0, locals := 15 } : Room).cells ({ frames := 1, cells := 0, slots := 0, locals := 15 } : Room).slots
set_option maxRecDepth 65536 in
set_option maxHeartbeats 40000000 in
theorem rmA1_3 (l : Launch) (Z : State) (a0 : Array Value) (hw : ∀ d ∈ tables_1, d.before a0 Z = true) (ws : List Jvm.Cond) (a : Addr) (el : Addr) (t : Addr) (mc : Int32) (kt : ClassId) (el0 : Addr) (el1 : Addr) (el2 : Addr) (h0 : Heap) (n0 : Nat) (Z0 : n0 ≤ h0.size) (Ea : Exa Z h0 a "java/util/ArrayList") (Fm : Fld Z h0 a "java/util/AbstractList" "modCount" "I" (.int mc)) (Fe : Fld Z h0 a "java/util/ArrayList" "elementData" "[Ljava/lang/Object;" (.ref t)) (Fs : Fld Z h0 a "java/util/ArrayList" "size" "I" (.int (3 : Int32))) (ga : n0 ≤ a) (V_t : Arv Z h0 t kt (.object "java/lang/Object") (10 : Int32) [(.ref el0), (.ref el1), (.ref el2), .null, .null, .null, .null, .null, .null, .null] .null) (O_t : Ovr Z kt "java/lang/Object") (gt : n0 ≤ t) (nat : a ≠ t) (Ee : Exa Z h0 el "[I") :
    MetFree l (⟨"java/util/ArrayList", "add", "(Ljava/lang/Object;)Z"⟩ : MethodName) (head1 (Jvm.Cond.code (⟨"java/util/ArrayList", "add", "(Ljava/lang/Object;)Z"⟩ : MethodName) jdk_38_method_25_code 2 (some .boolean) :: ws) ({ frames := 1, cells := 0, slots := 0, locals := 15 } : Room)) (fun aa U => aa = #[(.ref a), (.ref el)] ∧ Z.Warmed39 U.vm ∧ U.heap = h0) (fun _ _ _ _ _ => True) (fun _ U o U' => ∃ v L, o = .returned v ∧ QrmA1_3 Z a el t mc kt el0 el1 el2 h0 n0 v U'.heap L ∧ FrameEnd U o U' L ({ frames := 1, cells := 0, slots := 0, locals := 15 } : Room).cells ({ frames := 1, cells := 0, slots := 0, locals := 15 } : Room).slots) := by
  refine MetFree.of_bodySF (plainFor_of_name pn_2) hisR ?_
  intro p e s m args below meth c s₁ Bd hml0 hP hK
  obtain ⟨rfl, hZ, hh⟩ := hP
  have hx := Bd.exec
  have hlk : meth.locks = false := by first | exact BodyLoose.notSynchronized Bd | exact Body.notSynchronized Bd
  have hby := Bd.bytes
  have hml : c.maxLocals = 2 := hml0
  have hown : s.vm.findClass "java/util/ArrayList" = some m.cls := findClass_of_methodNamed Bd.named
  have hnm := (name_of_methodNamed Bd.named Bd.method).1
  have X0 : Stand p l e ({ frames := 1, cells := 0, slots := 0, locals := 15 } : Room) s m #[(.ref a), (.ref el)] below meth c s₁ [] 0 0 := Stand.of_body Bd
  have e0 : s₁.heap = h0 := by rw [← hh, Bd.state]; rfl
  have N0 := Fr.nil n0
  show Done p e below (PrmA1_3 s Z a el t mc kt el0 el1 el2 h0 n0) (s₁.setTop (entryFrame m #[(.ref a), (.ref el)] 2))
  refine Done.st (B := s₁.setTop (mkF m 0 #[.val (.ref a), .val (.ref el)] [])) (fun _ k => castTop (ef_rmA1_3 m a el) k) ?_
  refine Done.st (B := s₁.setTop (mkF m 1 #[.val (.ref a), .val (.ref el)] [(.ref a)])) (fun _ k => XS.aloadN X0.here hx rfl (hb hby d8_0) rfl rfl k) ?_
  refine Done.st (B := s₁.setTop (mkF m 2 #[.val (.ref a), .val (.ref el)] [(.ref a), (.ref a)])) (fun _ k => XS.dup X0.here hx rfl (hb hby d8_1) rfl rfl k) ?_
  obtain ⟨T1, X1, e1, st1⟩ := getF X0 hx hZ hown (host := "") (Or.inl (hw _ (List.mem_of_getElem? (i := 59) rfl))) (Via.of (hw _ (List.mem_of_getElem? (i := 60) rfl))) e0 Fm (g := (mkF m 2 #[.val (.ref a), .val (.ref el)] [(.ref a), (.ref a)])) rfl rfl (hb hby d8_2)
  refine Done.st (B := T1.setTop (mkF m 5 #[.val (.ref a), .val (.ref el)] [(.int mc), (.ref a)])) (fun _ k => st1 _ k) ?_
  refine Done.st (B := T1.setTop (mkF m 6 #[.val (.ref a), .val (.ref el)] [(.int (1 : Int32)), (.int mc), (.ref a)])) (fun _ k => XS.iconst X1.here hx rfl (hb hby d8_5) k) ?_
  refine Done.st (B := T1.setTop (mkF m 7 #[.val (.ref a), .val (.ref el)] [(.int (mc + (1 : Int32))), (.ref a)])) (fun _ k => XS.iadd X1.here hx rfl (hb hby d8_6) rfl k) ?_
  obtain ⟨T2, h2, X2, e2, W2, st2⟩ := putF X1 hx hZ hown (host := "") (Or.inl (hw _ (List.mem_of_getElem? (i := 59) rfl))) (Via.of (hw _ (List.mem_of_getElem? (i := 60) rfl))) e1 Fm Ea (Or.inl (hw _ (List.mem_of_getElem? (i := 23) rfl))) (hw _ (List.mem_of_getElem? (i := 2) rfl)) (ty := .int) (by decide) rfl rfl (g := (mkF m 7 #[.val (.ref a), .val (.ref el)] [(.int (mc + (1 : Int32))), (.ref a)])) rfl rfl (hb hby d8_7)
  have F2 := Fld.same W2 Fm
  have N2 := Fr.snoc X2 N0 ga
  have Z2 : n0 ≤ h2.size := Nat.le_trans Z0 (Keep.of_wr W2).1
  have KK2 : Keep h0 h2 [a, t] := ((Keep.refl h0 [a, t])).wr W2 (Or.inl (List.mem_of_getElem? (i := 0) rfl))
  refine Done.st (B := T2.setTop (mkF m 10 #[.val (.ref a), .val (.ref el)] [])) (fun _ k => st2 _ k) ?_
  refine Done.st (B := T2.setTop (mkF m 11 #[.val (.ref a), .val (.ref el)] [(.ref a)])) (fun _ k => XS.aloadN X2.here hx rfl (hb hby d8_10) rfl rfl k) ?_
  refine Done.st (B := T2.setTop (mkF m 12 #[.val (.ref a), .val (.ref el)] [(.ref el), (.ref a)])) (fun _ k => XS.aloadN X2.here hx rfl (hb hby d8_11) rfl rfl k) ?_
  refine Done.st (B := T2.setTop (mkF m 13 #[.val (.ref a), .val (.ref el)] [(.ref a), (.ref el), (.ref a)])) (fun _ k => XS.aloadN X2.here hx rfl (hb hby d8_12) rfl rfl k) ?_
  have c4 := (Fld.other W2 Fe (Or.inr (slot_ne (Or.inl (hw _ (List.mem_of_getElem? (i := 26) rfl))) (Or.inl (hw _ (List.mem_of_getElem? (i := 23) rfl))) (by decide) (t := (.array (.object "java/lang/Object"))) (t' := .int) (by decide) (by decide))))
  obtain ⟨T3, X3, e3, st3⟩ := getF X2 hx hZ hown (host := "") (Or.inl (hw _ (List.mem_of_getElem? (i := 25) rfl))) Via.refl e2 c4 (g := (mkF m 13 #[.val (.ref a), .val (.ref el)] [(.ref a), (.ref el), (.ref a)])) rfl rfl (hb hby d8_13)
  refine Done.st (B := T3.setTop (mkF m 16 #[.val (.ref a), .val (.ref el)] [(.ref t), (.ref el), (.ref a)])) (fun _ k => st3 _ k) ?_
  refine Done.st (B := T3.setTop (mkF m 17 #[.val (.ref a), .val (.ref el)] [(.ref a), (.ref t), (.ref el), (.ref a)])) (fun _ k => XS.aloadN X3.here hx rfl (hb hby d8_16) rfl rfl k) ?_
  have c6 := (Fld.other W2 Fs (Or.inr (slot_ne (Or.inl (hw _ (List.mem_of_getElem? (i := 44) rfl))) (Or.inl (hw _ (List.mem_of_getElem? (i := 23) rfl))) (by decide) (t := .int) (t' := .int) (by decide) (by decide))))
  obtain ⟨T5, X5, e5, st5⟩ := getF X3 hx hZ hown (host := "") (Or.inl (hw _ (List.mem_of_getElem? (i := 43) rfl))) Via.refl e3 c6 (g := (mkF m 17 #[.val (.ref a), .val (.ref el)] [(.ref a), (.ref t), (.ref el), (.ref a)])) rfl rfl (hb hby d8_17)
  refine Done.st (B := T5.setTop (mkF m 20 #[.val (.ref a), .val (.ref el)] [(.int (3 : Int32)), (.ref t), (.ref el), (.ref a)])) (fun _ k => st5 _ k) ?_
  have c7 := (Exa.wr W2 Ea)
  have c8 := (V_t.other W2 (Ne.symm nat))
  have c9 := (Exa.wr W2 Ee)
  obtain ⟨cq10, q10, q10'⟩ := c7.cell
  obtain ⟨_, _, ⟨T10, L10, k10, n10⟩, -, X10, ⟨Lc10, hQ10, l10, y10, z10⟩, st10⟩ := X5.privateBack hx (y := (⟨"java/util/ArrayList", "add", "(Ljava/lang/Object;[Ljava/lang/Object;I)V"⟩ : MethodName)) hown (mvT hZ (hw _ (List.mem_of_getElem? (i := 61) rfl))) (mvT hZ (hw _ (List.mem_of_getElem? (i := 62) rfl))) (mvT hZ (hw _ (List.mem_of_getElem? (i := 64) rfl))) (Cond.privateMethod_at (mvP hZ (hw _ (List.mem_of_getElem? (i := 63) rfl)) (args := #[]))) (mvT hZ (hw _ (List.mem_of_getElem? (i := 65) rfl))) (by decide) (backOf (W := 0) (rmA3_3 l Z a0 hw [] a el t (mc + (1 : Int32)) kt el0 el1 el2 h2 n0 Z2 c7 F2 c4 c6 ga c8 O_t gt nat c9) hZ (hw _ (List.mem_of_getElem? (i := 65) rfl)) (hw _ (List.mem_of_getElem? (i := 3) rfl)) (by decide) (by decide)) (g := (mkF m 20 #[.val (.ref a), .val (.ref el)] [(.int (3 : Int32)), (.ref t), (.ref el), (.ref a)])) rfl (by rw [hml]; rfl) (Steps.refl _) (a := a) (by rw [e5]; exact q10) q10' (argsL := [(.ref el), (.ref t), (.int (3 : Int32))]) (rest := []) (lenOf pd_4 rfl) rfl (by show 2 * 0 + _ ≤ _; exact Nat.le_of_eq rfl) (hb hby d8_20) (fun _ _ => ⟨rfl, e5, (by decide : 0 + 0 ≤ _), (by decide : 0 + 0 ≤ _)⟩)
  dsimp only [Pt.U, Pt.locs, Pt.cells, Pt.slots] at X10 l10 y10 z10 st10 hQ10
  subst l10 y10 z10
  obtain ⟨rfl, N10q, K10, f10_0, f10_1, f10_2, f10_3, f10_4⟩ := hQ10
  have N10 := Fr.app N2 N10q
  have Z10 : n0 ≤ T10.heap.size := Nat.le_trans Z2 K10.1
  have KK10 : Keep h0 T10.heap [a, t] := (KK2).trans K10 (allS (Or.inl (List.mem_of_getElem? (i := 0) rfl)) (allS (Or.inl (List.mem_of_getElem? (i := 1) rfl)) all0))
  refine Done.st (B := T10.setTop (mkF m 23 #[.val (.ref a), .val (.ref el)] [])) (fun _ k => st10.trans k) ?_
  refine Done.st (B := T10.setTop (mkF m 24 #[.val (.ref a), .val (.ref el)] [(.int (1 : Int32))])) (fun _ k => XS.iconst X10.here hx rfl (hb hby d8_23) k) ?_
  obtain ⟨fs, hr, hrun, hended, hW, hsame⟩ := X10.leave (v := some (.int (1 : Int32))) (hlocks := hlk) (fun h => by rw [Bd.returns] at h; cases h)
  refine Done.fin (retN X10 hx (t := .boolean) Bd.returns (by simp) (hb hby d8_24) hr) hrun hended ⟨_, _, rfl, ?_, ⟨_, rfl⟩, hW, hsame.mono (by decide) (by decide)⟩
  show QrmA1_3 Z a el t mc kt el0 el1 el2 h0 n0 _ T10.heap _
  exact ⟨rfl, N10, KK10, f10_0, f10_1, f10_2, f10_3, f10_4⟩
theorem ef_rm6 (m : MethodId) (a : Addr) : entryFrame m #[(.ref a)] 1 = mkF m 0 #[.val (.ref a)] [] := by first | (simp [entryFrame, mkF, argsToLocals, Value.category]; done) | rfl
def Qrm6 (Z : State) (a : Addr) (z : Int32) (h0 : Heap) (n0 : Nat) (v : Option Value) (h : Heap) (L : List Loc) : Prop := v = some (.int z) ∧ Fr n0 L ∧ h = h0
def Prm6 (s : State) (Z : State) (a : Addr) (z : Int32) (h0 : Heap) (n0 : Nat) : State → Outcome → Prop := fun U' o => ∃ v L, o = .returned v ∧ Qrm6 Z a z h0 n0 v U'.heap L ∧ FrameEnd s o U' L ({ frames := 0, cells := 0, slots := 0, locals := 0 } : Room).cells ({ frames := 0, cells := 0, slots := 0, locals := 0 } : Room).slots
set_option maxRecDepth 65536 in
set_option maxHeartbeats 40000000 in
theorem rm6 (l : Launch) (Z : State) (a0 : Array Value) (hw : ∀ d ∈ tables_1, d.before a0 Z = true) (ws : List Jvm.Cond) (a : Addr) (z : Int32) (h0 : Heap) (n0 : Nat) (Z0 : n0 ≤ h0.size) (Fz : Fld Z h0 a "java/util/ArrayList" "size" "I" (.int z)) :
    MetFree l (⟨"java/util/ArrayList", "size", "()I"⟩ : MethodName) (head1 (Jvm.Cond.code (⟨"java/util/ArrayList", "size", "()I"⟩ : MethodName) jdk_38_method_8_code 1 (some .int) :: ws) ({ frames := 0, cells := 0, slots := 0, locals := 0 } : Room)) (fun aa U => aa = #[(.ref a)] ∧ Z.Warmed39 U.vm ∧ U.heap = h0) (fun _ _ _ _ _ => True) (fun _ U o U' => ∃ v L, o = .returned v ∧ Qrm6 Z a z h0 n0 v U'.heap L ∧ FrameEnd U o U' L ({ frames := 0, cells := 0, slots := 0, locals := 0 } : Room).cells ({ frames := 0, cells := 0, slots := 0, locals := 0 } : Room).slots) := by
  refine MetFree.of_bodySF (plainFor_of_name pn_2) hisR ?_
  intro p e s m args below meth c s₁ Bd hml0 hP hK
  obtain ⟨rfl, hZ, hh⟩ := hP
  have hx := Bd.exec
  have hlk : meth.locks = false := by first | exact BodyLoose.notSynchronized Bd | exact Body.notSynchronized Bd
  have hby := Bd.bytes
  have hml : c.maxLocals = 1 := hml0
  have hown : s.vm.findClass "java/util/ArrayList" = some m.cls := findClass_of_methodNamed Bd.named
  have hnm := (name_of_methodNamed Bd.named Bd.method).1
  have X0 : Stand p l e ({ frames := 0, cells := 0, slots := 0, locals := 0 } : Room) s m #[(.ref a)] below meth c s₁ [] 0 0 := Stand.of_body Bd
  have e0 : s₁.heap = h0 := by rw [← hh, Bd.state]; rfl
  have N0 := Fr.nil n0
  show Done p e below (Prm6 s Z a z h0 n0) (s₁.setTop (entryFrame m #[(.ref a)] 1))
  refine Done.st (B := s₁.setTop (mkF m 0 #[.val (.ref a)] [])) (fun _ k => castTop (ef_rm6 m a) k) ?_
  refine Done.st (B := s₁.setTop (mkF m 1 #[.val (.ref a)] [(.ref a)])) (fun _ k => XS.aloadN X0.here hx rfl (hb hby d6_0) rfl rfl k) ?_
  obtain ⟨T1, X1, e1, st1⟩ := getF X0 hx hZ hown (host := "") (Or.inl (hw _ (List.mem_of_getElem? (i := 43) rfl))) Via.refl e0 Fz (g := (mkF m 1 #[.val (.ref a)] [(.ref a)])) rfl rfl (hb hby d6_1)
  refine Done.st (B := T1.setTop (mkF m 4 #[.val (.ref a)] [(.int z)])) (fun _ k => st1 _ k) ?_
  obtain ⟨fs, hr, hrun, hended, hW, hsame⟩ := X1.leave (v := some (.int z)) (hlocks := hlk) (fun h => by rw [Bd.returns] at h; cases h)
  refine Done.fin (retI X1 hx Bd.returns (hb hby d6_4) hr) hrun hended ⟨_, _, rfl, ?_, ⟨_, rfl⟩, hW, hsame.mono (by decide) (by decide)⟩
  show Qrm6 Z a z h0 n0 _ T1.heap _
  rw [e1]
  exact ⟨rfl, N0, rfl⟩
theorem ef_rm15 (m : MethodId) (i : Int32) (z : Int32) : entryFrame m #[(.int i), (.int z), .null] 3 = mkF m 0 #[.val (.int i), .val (.int z), .val .null] [] := by first | (simp [entryFrame, mkF, argsToLocals, Value.category]; done) | rfl
def Qrm15 (Z : State) (i : Int32) (z : Int32) (h0 : Heap) (n0 : Nat) (v : Option Value) (h : Heap) (L : List Loc) : Prop := v = some (.int i) ∧ Fr n0 L ∧ h = h0
def Prm15 (s : State) (Z : State) (i : Int32) (z : Int32) (h0 : Heap) (n0 : Nat) : State → Outcome → Prop := fun U' o => ∃ v L, o = .returned v ∧ Qrm15 Z i z h0 n0 v U'.heap L ∧ FrameEnd s o U' L ({ frames := 0, cells := 0, slots := 0, locals := 0 } : Room).cells ({ frames := 0, cells := 0, slots := 0, locals := 0 } : Room).slots
set_option maxRecDepth 65536 in
set_option maxHeartbeats 40000000 in
theorem rm15 (l : Launch) (Z : State) (a0 : Array Value) (hw : ∀ d ∈ tables_1, d.before a0 Z = true) (ws : List Jvm.Cond) (i : Int32) (z : Int32) (h0 : Heap) (n0 : Nat) (Z0 : n0 ≤ h0.size) (hi : ¬ i < 0 ∧ i < z) :
    MetFree l (⟨"jdk/internal/util/Preconditions", "checkIndex", "(IILjava/util/function/BiFunction;)I"⟩ : MethodName) (head1 (Jvm.Cond.code (⟨"jdk/internal/util/Preconditions", "checkIndex", "(IILjava/util/function/BiFunction;)I"⟩ : MethodName) jdk_41_method_11_code 3 (some .int) :: ws) ({ frames := 0, cells := 0, slots := 0, locals := 0 } : Room)) (fun aa U => aa = #[(.int i), (.int z), .null] ∧ Z.Warmed39 U.vm ∧ U.heap = h0) (fun _ _ _ _ _ => True) (fun _ U o U' => ∃ v L, o = .returned v ∧ Qrm15 Z i z h0 n0 v U'.heap L ∧ FrameEnd U o U' L ({ frames := 0, cells := 0, slots := 0, locals := 0 } : Room).cells ({ frames := 0, cells := 0, slots := 0, locals := 0 } : Room).slots) := by
  refine MetFree.of_bodySF (plainFor_of_name pn_3) hisR ?_
  intro p e s m args below meth c s₁ Bd hml0 hP hK
  obtain ⟨rfl, hZ, hh⟩ := hP
  have hx := Bd.exec
  have hlk : meth.locks = false := by first | exact BodyLoose.notSynchronized Bd | exact Body.notSynchronized Bd
  have hby := Bd.bytes
  have hml : c.maxLocals = 3 := hml0
  have hown : s.vm.findClass "jdk/internal/util/Preconditions" = some m.cls := findClass_of_methodNamed Bd.named
  have hnm := (name_of_methodNamed Bd.named Bd.method).1
  have X0 : Stand p l e ({ frames := 0, cells := 0, slots := 0, locals := 0 } : Room) s m #[(.int i), (.int z), .null] below meth c s₁ [] 0 0 := Stand.of_body Bd
  have e0 : s₁.heap = h0 := by rw [← hh, Bd.state]; rfl
  have N0 := Fr.nil n0
  show Done p e below (Prm15 s Z i z h0 n0) (s₁.setTop (entryFrame m #[(.int i), (.int z), .null] 3))
  refine Done.st (B := s₁.setTop (mkF m 0 #[.val (.int i), .val (.int z), .val .null] [])) (fun _ k => castTop (ef_rm15 m i z) k) ?_
  refine Done.st (B := s₁.setTop (mkF m 1 #[.val (.int i), .val (.int z), .val .null] [(.int i)])) (fun _ k => XS.iloadN X0.here hx rfl (hb hby d15_0) rfl k) ?_
  refine Done.st (B := s₁.setTop (mkF m 4 #[.val (.int i), .val (.int z), .val .null] [])) (fun _ k => XS.ifNo X0.here hx rfl (hb hby d15_1) rfl ((if0 _ _).trans (flt (hi.1)).1) k) ?_
  refine Done.st (B := s₁.setTop (mkF m 5 #[.val (.int i), .val (.int z), .val .null] [(.int i)])) (fun _ k => XS.iloadN X0.here hx rfl (hb hby d15_4) rfl k) ?_
  refine Done.st (B := s₁.setTop (mkF m 6 #[.val (.int i), .val (.int z), .val .null] [(.int z), (.int i)])) (fun _ k => XS.iloadN X0.here hx rfl (hb hby d15_5) rfl k) ?_
  refine Done.st (B := s₁.setTop (mkF m 16 #[.val (.int i), .val (.int z), .val .null] [])) (fun _ k => XS.icmpYes X0.here hx rfl (pc0 := 6) (pc' := 16) rfl (hb hby d15_6) rfl (tlt (hi.2)).1 (by decide) (by decide) k) ?_
  refine Done.st (B := s₁.setTop (mkF m 17 #[.val (.int i), .val (.int z), .val .null] [(.int i)])) (fun _ k => XS.iloadN X0.here hx rfl (hb hby d15_16) rfl k) ?_
  obtain ⟨fs, hr, hrun, hended, hW, hsame⟩ := X0.leave (v := some (.int i)) (hlocks := hlk) (fun h => by rw [Bd.returns] at h; cases h)
  refine Done.fin (retI X0 hx Bd.returns (hb hby d15_17) hr) hrun hended ⟨_, _, rfl, ?_, ⟨_, rfl⟩, hW, hsame.mono (by decide) (by decide)⟩
  show Qrm15 Z i z h0 n0 _ s₁.heap _
  rw [e0]
  exact ⟨rfl, N0, rfl⟩
theorem ef_rm14 (m : MethodId) (i : Int32) (z : Int32) : entryFrame m #[(.int i), (.int z)] 2 = mkF m 0 #[.val (.int i), .val (.int z)] [] := by first | (simp [entryFrame, mkF, argsToLocals, Value.category]; done) | rfl
def Qrm14 (Z : State) (i : Int32) (z : Int32) (h0 : Heap) (n0 : Nat) (v : Option Value) (h : Heap) (L : List Loc) : Prop := v = some (.int i) ∧ Fr n0 L ∧ h = h0
def Prm14 (s : State) (Z : State) (i : Int32) (z : Int32) (h0 : Heap) (n0 : Nat) : State → Outcome → Prop := fun U' o => ∃ v L, o = .returned v ∧ Qrm14 Z i z h0 n0 v U'.heap L ∧ FrameEnd s o U' L ({ frames := 1, cells := 0, slots := 0, locals := 14 } : Room).cells ({ frames := 1, cells := 0, slots := 0, locals := 14 } : Room).slots
set_option maxRecDepth 65536 in
set_option maxHeartbeats 40000000 in
theorem rm14 (l : Launch) (Z : State) (a0 : Array Value) (hw : ∀ d ∈ tables_1, d.before a0 Z = true) (ws : List Jvm.Cond) (i : Int32) (z : Int32) (h0 : Heap) (n0 : Nat) (Z0 : n0 ≤ h0.size) (hi : ¬ i < 0 ∧ i < z) :
    MetFree l (⟨"java/util/Objects", "checkIndex", "(II)I"⟩ : MethodName) (head1 (Jvm.Cond.code (⟨"java/util/Objects", "checkIndex", "(II)I"⟩ : MethodName) jdk_31_method_17_code 2 (some .int) :: ws) ({ frames := 1, cells := 0, slots := 0, locals := 14 } : Room)) (fun aa U => aa = #[(.int i), (.int z)] ∧ Z.Warmed39 U.vm ∧ U.heap = h0) (fun _ _ _ _ _ => True) (fun _ U o U' => ∃ v L, o = .returned v ∧ Qrm14 Z i z h0 n0 v U'.heap L ∧ FrameEnd U o U' L ({ frames := 1, cells := 0, slots := 0, locals := 14 } : Room).cells ({ frames := 1, cells := 0, slots := 0, locals := 14 } : Room).slots) := by
  refine MetFree.of_bodySF (plainFor_of_name pn_4) hisR ?_
  intro p e s m args below meth c s₁ Bd hml0 hP hK
  obtain ⟨rfl, hZ, hh⟩ := hP
  have hx := Bd.exec
  have hlk : meth.locks = false := by first | exact BodyLoose.notSynchronized Bd | exact Body.notSynchronized Bd
  have hby := Bd.bytes
  have hml : c.maxLocals = 2 := hml0
  have hown : s.vm.findClass "java/util/Objects" = some m.cls := findClass_of_methodNamed Bd.named
  have hnm := (name_of_methodNamed Bd.named Bd.method).1
  have X0 : Stand p l e ({ frames := 1, cells := 0, slots := 0, locals := 14 } : Room) s m #[(.int i), (.int z)] below meth c s₁ [] 0 0 := Stand.of_body Bd
  have e0 : s₁.heap = h0 := by rw [← hh, Bd.state]; rfl
  have N0 := Fr.nil n0
  show Done p e below (Prm14 s Z i z h0 n0) (s₁.setTop (entryFrame m #[(.int i), (.int z)] 2))
  refine Done.st (B := s₁.setTop (mkF m 0 #[.val (.int i), .val (.int z)] [])) (fun _ k => castTop (ef_rm14 m i z) k) ?_
  refine Done.st (B := s₁.setTop (mkF m 1 #[.val (.int i), .val (.int z)] [(.int i)])) (fun _ k => XS.iloadN X0.here hx rfl (hb hby d14_0) rfl k) ?_
  refine Done.st (B := s₁.setTop (mkF m 2 #[.val (.int i), .val (.int z)] [(.int z), (.int i)])) (fun _ k => XS.iloadN X0.here hx rfl (hb hby d14_1) rfl k) ?_
  refine Done.st (B := s₁.setTop (mkF m 3 #[.val (.int i), .val (.int z)] [.null, (.int z), (.int i)])) (fun _ k => XS.aconstNull X0.here hx rfl (hb hby d14_2) k) ?_
  obtain ⟨_, _, ⟨T1, L1, k1, n1⟩, -, X1, ⟨Lc1, hQ1, l1, y1, z1⟩, st1⟩ := Jvm.LawKit.callS X0 hx (y := (⟨"jdk/internal/util/Preconditions", "checkIndex", "(IILjava/util/function/BiFunction;)I"⟩ : MethodName)) hown (mvT hZ (hw _ (List.mem_of_getElem? (i := 95) rfl))) (mvT hZ (hw _ (List.mem_of_getElem? (i := 96) rfl))) (mvT hZ (hw _ (List.mem_of_getElem? (i := 97) rfl))) (mvT hZ (hw _ (List.mem_of_getElem? (i := 98) rfl))) (by decide) (backOf (W := 0) (rm15 l Z a0 hw [] i z h0 n0 Z0 hi) hZ (hw _ (List.mem_of_getElem? (i := 98) rfl)) (hw _ (List.mem_of_getElem? (i := 97) rfl)) (by decide) (by decide)) (g := (mkF m 3 #[.val (.int i), .val (.int z)] [.null, (.int z), (.int i)])) rfl (by rw [hml]; rfl) (argsL := [(.int i), (.int z), .null]) (rest := []) (lenOf pd_5 rfl) rfl (by show 2 * 0 + _ ≤ _; exact Nat.le_of_eq rfl) (hb hby d14_3) (fun _ _ => ⟨rfl, e0, (by decide : 0 + 0 ≤ _), (by decide : 0 + 0 ≤ _)⟩)
  dsimp only [Pt.U, Pt.locs, Pt.cells, Pt.slots] at X1 l1 y1 z1 st1 hQ1
  subst l1 y1 z1
  obtain ⟨rfl, N1q, e1⟩ := hQ1
  have N1 := Fr.app N0 N1q
  refine Done.st (B := T1.setTop (mkF m 6 #[.val (.int i), .val (.int z)] [(.int i)])) (fun _ k => st1 _ k) ?_
  obtain ⟨fs, hr, hrun, hended, hW, hsame⟩ := X1.leave (v := some (.int i)) (hlocks := hlk) (fun h => by rw [Bd.returns] at h; cases h)
  refine Done.fin (retI X1 hx Bd.returns (hb hby d14_6) hr) hrun hended ⟨_, _, rfl, ?_, ⟨_, rfl⟩, hW, hsame.mono (by decide) (by decide)⟩
  show Qrm14 Z i z h0 n0 _ T1.heap _
  rw [e1]
  exact ⟨rfl, N1, rfl⟩
theorem ef_rm16 (m : MethodId) (a : Addr) (i : Int32) : entryFrame m #[(.ref a), (.int i)] 2 = mkF m 0 #[.val (.ref a), .val (.int i)] [] := by first | (simp [entryFrame, mkF, argsToLocals, Value.category]; done) | rfl
def Qrm16 (Z : State) (a : Addr) (i : Int32) (t : Addr) (kt : ClassId) (vs : List Value) (x : Addr) (h0 : Heap) (n0 : Nat) (v : Option Value) (h : Heap) (L : List Loc) : Prop := v = some (.ref x) ∧ Fr n0 L ∧ h = h0
def Prm16 (s : State) (Z : State) (a : Addr) (i : Int32) (t : Addr) (kt : ClassId) (vs : List Value) (x : Addr) (h0 : Heap) (n0 : Nat) : State → Outcome → Prop := fun U' o => ∃ v L, o = .returned v ∧ Qrm16 Z a i t kt vs x h0 n0 v U'.heap L ∧ FrameEnd s o U' L ({ frames := 0, cells := 0, slots := 0, locals := 0 } : Room).cells ({ frames := 0, cells := 0, slots := 0, locals := 0 } : Room).slots
set_option maxRecDepth 65536 in
set_option maxHeartbeats 40000000 in
theorem rm16 (l : Launch) (Z : State) (a0 : Array Value) (hw : ∀ d ∈ tables_1, d.before a0 Z = true) (ws : List Jvm.Cond) (a : Addr) (i : Int32) (t : Addr) (kt : ClassId) (vs : List Value) (x : Addr) (h0 : Heap) (n0 : Nat) (Z0 : n0 ≤ h0.size) (Fe : Fld Z h0 a "java/util/ArrayList" "elementData" "[Ljava/lang/Object;" (.ref t)) (Vt : Arv Z h0 t kt (.object "java/lang/Object") (10 : Int32) vs .null) (hj : ¬ i < 0 ∧ i < (10 : Int32)) (hv : vs.getD i.toNatClampNeg .null = .ref x) :
    MetFree l (⟨"java/util/ArrayList", "elementData", "(I)Ljava/lang/Object;"⟩ : MethodName) (head1 (Jvm.Cond.code (⟨"java/util/ArrayList", "elementData", "(I)Ljava/lang/Object;"⟩ : MethodName) jdk_38_method_18_code 2 (some (.object "java/lang/Object")) :: ws) ({ frames := 0, cells := 0, slots := 0, locals := 0 } : Room)) (fun aa U => aa = #[(.ref a), (.int i)] ∧ Z.Warmed39 U.vm ∧ U.heap = h0) (fun _ _ _ _ _ => True) (fun _ U o U' => ∃ v L, o = .returned v ∧ Qrm16 Z a i t kt vs x h0 n0 v U'.heap L ∧ FrameEnd U o U' L ({ frames := 0, cells := 0, slots := 0, locals := 0 } : Room).cells ({ frames := 0, cells := 0, slots := 0, locals := 0 } : Room).slots) := by
  refine MetFree.of_bodySF (plainFor_of_name pn_2) hisR ?_
  intro p e s m args below meth c s₁ Bd hml0 hP hK
  obtain ⟨rfl, hZ, hh⟩ := hP
  have hx := Bd.exec
  have hlk : meth.locks = false := by first | exact BodyLoose.notSynchronized Bd | exact Body.notSynchronized Bd
  have hby := Bd.bytes
  have hml : c.maxLocals = 2 := hml0
  have hown : s.vm.findClass "java/util/ArrayList" = some m.cls := findClass_of_methodNamed Bd.named
  have hnm := (name_of_methodNamed Bd.named Bd.method).1
  have X0 : Stand p l e ({ frames := 0, cells := 0, slots := 0, locals := 0 } : Room) s m #[(.ref a), (.int i)] below meth c s₁ [] 0 0 := Stand.of_body Bd
  have e0 : s₁.heap = h0 := by rw [← hh, Bd.state]; rfl
  have N0 := Fr.nil n0
  show Done p e below (Prm16 s Z a i t kt vs x h0 n0) (s₁.setTop (entryFrame m #[(.ref a), (.int i)] 2))
  refine Done.st (B := s₁.setTop (mkF m 0 #[.val (.ref a), .val (.int i)] [])) (fun _ k => castTop (ef_rm16 m a i) k) ?_
  refine Done.st (B := s₁.setTop (mkF m 1 #[.val (.ref a), .val (.int i)] [(.ref a)])) (fun _ k => XS.aloadN X0.here hx rfl (hb hby d16_0) rfl rfl k) ?_
  obtain ⟨T1, X1, e1, st1⟩ := getF X0 hx hZ hown (host := "") (Or.inl (hw _ (List.mem_of_getElem? (i := 25) rfl))) Via.refl e0 Fe (g := (mkF m 1 #[.val (.ref a), .val (.int i)] [(.ref a)])) rfl rfl (hb hby d16_1)
  refine Done.st (B := T1.setTop (mkF m 4 #[.val (.ref a), .val (.int i)] [(.ref t)])) (fun _ k => st1 _ k) ?_
  refine Done.st (B := T1.setTop (mkF m 5 #[.val (.ref a), .val (.int i)] [(.int i), (.ref t)])) (fun _ k => XS.iloadN X1.here hx rfl (hb hby d16_4) rfl k) ?_
  obtain ⟨cl2, Ar2, q2, S2, M2, H2, G2⟩ := id Vt
  have hin2 : ¬ (i < 0 ∨ cl2.slots.size ≤ (i).toNatClampNeg) := inb_of S2 hj
  have hat2 : cl2.slots[(i).toNatClampNeg]? = some (.ref x) := Has.at H2 hin2 hv
  refine Done.st (B := T1.setTop (mkF m 6 #[.val (.ref a), .val (.int i)] [(.ref x)])) (fun _ k => X1.aaload hx (j := i) (v := (.ref x)) (by rw [e1]; exact Ar2.1) (State.isArrayOf_alike hZ.alike Ar2.2.1) rfl Ar2.2.2 hin2 hat2 (g := (mkF m 5 #[.val (.ref a), .val (.int i)] [(.int i), (.ref t)])) rfl rfl (hb hby d16_5) _ k) ?_
  obtain ⟨fs, hr, hrun, hended, hW, hsame⟩ := X1.leave (v := some (.ref x)) (hlocks := hlk) (fun h => by rw [Bd.returns] at h; cases h)
  refine Done.fin (retR X1 hx Bd.returns rfl rfl (hb hby d16_6) hr) hrun hended ⟨_, _, rfl, ?_, ⟨_, rfl⟩, hW, hsame.mono (by decide) (by decide)⟩
  show Qrm16 Z a i t kt vs x h0 n0 _ T1.heap _
  rw [e1]
  exact ⟨rfl, N0, rfl⟩
theorem ef_rm13 (m : MethodId) (a : Addr) (i : Int32) : entryFrame m #[(.ref a), (.int i)] 2 = mkF m 0 #[.val (.ref a), .val (.int i)] [] := by first | (simp [entryFrame, mkF, argsToLocals, Value.category]; done) | rfl
def Qrm13 (Z : State) (a : Addr) (i : Int32) (t : Addr) (kt : ClassId) (vs : List Value) (x : Addr) (z : Int32) (h0 : Heap) (n0 : Nat) (v : Option Value) (h : Heap) (L : List Loc) : Prop := v = some (.ref x) ∧ Fr n0 L ∧ h = h0
def Prm13 (s : State) (Z : State) (a : Addr) (i : Int32) (t : Addr) (kt : ClassId) (vs : List Value) (x : Addr) (z : Int32) (h0 : Heap) (n0 : Nat) : State → Outcome → Prop := fun U' o => ∃ v L, o = .returned v ∧ Qrm13 Z a i t kt vs x z h0 n0 v U'.heap L ∧ FrameEnd s o U' L ({ frames := 2, cells := 0, slots := 0, locals := 27 } : Room).cells ({ frames := 2, cells := 0, slots := 0, locals := 27 } : Room).slots
set_option maxRecDepth 65536 in
set_option maxHeartbeats 40000000 in
theorem rm13 (l : Launch) (Z : State) (a0 : Array Value) (hw : ∀ d ∈ tables_1, d.before a0 Z = true) (ws : List Jvm.Cond) (a : Addr) (i : Int32) (t : Addr) (kt : ClassId) (vs : List Value) (x : Addr) (z : Int32) (h0 : Heap) (n0 : Nat) (Z0 : n0 ≤ h0.size) (Fe : Fld Z h0 a "java/util/ArrayList" "elementData" "[Ljava/lang/Object;" (.ref t)) (Vt : Arv Z h0 t kt (.object "java/lang/Object") (10 : Int32) vs .null) (hj : ¬ i < 0 ∧ i < (10 : Int32)) (hv : vs.getD i.toNatClampNeg .null = .ref x) (Fz : Fld Z h0 a "java/util/ArrayList" "size" "I" (.int z)) (Ea : Exa Z h0 a "java/util/ArrayList") (hi : ¬ i < 0 ∧ i < z) :
    MetFree l (⟨"java/util/ArrayList", "get", "(I)Ljava/lang/Object;"⟩ : MethodName) (head1 (Jvm.Cond.code (⟨"java/util/ArrayList", "get", "(I)Ljava/lang/Object;"⟩ : MethodName) jdk_38_method_20_code 2 (some (.object "java/lang/Object")) :: ws) ({ frames := 2, cells := 0, slots := 0, locals := 27 } : Room)) (fun aa U => aa = #[(.ref a), (.int i)] ∧ Z.Warmed39 U.vm ∧ U.heap = h0) (fun _ _ _ _ _ => True) (fun _ U o U' => ∃ v L, o = .returned v ∧ Qrm13 Z a i t kt vs x z h0 n0 v U'.heap L ∧ FrameEnd U o U' L ({ frames := 2, cells := 0, slots := 0, locals := 27 } : Room).cells ({ frames := 2, cells := 0, slots := 0, locals := 27 } : Room).slots) := by
  refine MetFree.of_bodySF (plainFor_of_name pn_2) hisR ?_
  intro p e s m args below meth c s₁ Bd hml0 hP hK
  obtain ⟨rfl, hZ, hh⟩ := hP
  have hx := Bd.exec
  have hlk : meth.locks = false := by first | exact BodyLoose.notSynchronized Bd | exact Body.notSynchronized Bd
  have hby := Bd.bytes
  have hml : c.maxLocals = 2 := hml0
  have hown : s.vm.findClass "java/util/ArrayList" = some m.cls := findClass_of_methodNamed Bd.named
  have hnm := (name_of_methodNamed Bd.named Bd.method).1
  have X0 : Stand p l e ({ frames := 2, cells := 0, slots := 0, locals := 27 } : Room) s m #[(.ref a), (.int i)] below meth c s₁ [] 0 0 := Stand.of_body Bd
  have e0 : s₁.heap = h0 := by rw [← hh, Bd.state]; rfl
  have N0 := Fr.nil n0
  show Done p e below (Prm13 s Z a i t kt vs x z h0 n0) (s₁.setTop (entryFrame m #[(.ref a), (.int i)] 2))
  refine Done.st (B := s₁.setTop (mkF m 0 #[.val (.ref a), .val (.int i)] [])) (fun _ k => castTop (ef_rm13 m a i) k) ?_
  refine Done.st (B := s₁.setTop (mkF m 1 #[.val (.ref a), .val (.int i)] [(.int i)])) (fun _ k => XS.iloadN X0.here hx rfl (hb hby d13_0) rfl k) ?_
  refine Done.st (B := s₁.setTop (mkF m 2 #[.val (.ref a), .val (.int i)] [(.ref a), (.int i)])) (fun _ k => XS.aloadN X0.here hx rfl (hb hby d13_1) rfl rfl k) ?_
  obtain ⟨T1, X1, e1, st1⟩ := getF X0 hx hZ hown (host := "") (Or.inl (hw _ (List.mem_of_getElem? (i := 43) rfl))) Via.refl e0 Fz (g := (mkF m 2 #[.val (.ref a), .val (.int i)] [(.ref a), (.int i)])) rfl rfl (hb hby d13_2)
  refine Done.st (B := T1.setTop (mkF m 5 #[.val (.ref a), .val (.int i)] [(.int z), (.int i)])) (fun _ k => st1 _ k) ?_
  obtain ⟨_, _, ⟨T2, L2, k2, n2⟩, -, X2, ⟨Lc2, hQ2, l2, y2, z2⟩, st2⟩ := Jvm.LawKit.callS X1 hx (y := (⟨"java/util/Objects", "checkIndex", "(II)I"⟩ : MethodName)) hown (mvT hZ (hw _ (List.mem_of_getElem? (i := 91) rfl))) (mvT hZ (hw _ (List.mem_of_getElem? (i := 92) rfl))) (mvT hZ (hw _ (List.mem_of_getElem? (i := 93) rfl))) (mvT hZ (hw _ (List.mem_of_getElem? (i := 94) rfl))) (by decide) (backOf (W := 0) (rm14 l Z a0 hw [] i z h0 n0 Z0 hi) hZ (hw _ (List.mem_of_getElem? (i := 94) rfl)) (hw _ (List.mem_of_getElem? (i := 93) rfl)) (by decide) (by decide)) (g := (mkF m 5 #[.val (.ref a), .val (.int i)] [(.int z), (.int i)])) rfl (by rw [hml]; rfl) (argsL := [(.int i), (.int z)]) (rest := []) (lenOf pd_1 rfl) rfl (by show 2 * 0 + _ ≤ _; exact Nat.le_of_eq rfl) (hb hby d13_5) (fun _ _ => ⟨rfl, e1, (by decide : 0 + 0 ≤ _), (by decide : 0 + 0 ≤ _)⟩)
  dsimp only [Pt.U, Pt.locs, Pt.cells, Pt.slots] at X2 l2 y2 z2 st2 hQ2
  subst l2 y2 z2
  obtain ⟨rfl, N2q, e2⟩ := hQ2
  have N2 := Fr.app N0 N2q
  refine Done.st (B := T2.setTop (mkF m 8 #[.val (.ref a), .val (.int i)] [(.int i)])) (fun _ k => st2 _ k) ?_
  refine Done.st (B := T2.setTop (mkF m 9 #[.val (.ref a), .val (.int i)] [])) (fun _ k => XS.pop X2.here hx rfl (hb hby d13_8) rfl rfl k) ?_
  refine Done.st (B := T2.setTop (mkF m 10 #[.val (.ref a), .val (.int i)] [(.ref a)])) (fun _ k => XS.aloadN X2.here hx rfl (hb hby d13_9) rfl rfl k) ?_
  refine Done.st (B := T2.setTop (mkF m 11 #[.val (.ref a), .val (.int i)] [(.int i), (.ref a)])) (fun _ k => XS.iloadN X2.here hx rfl (hb hby d13_10) rfl k) ?_
  obtain ⟨cq3, kq3, q3a, q3b, q3c⟩ := isOf hZ e2 Ea
  obtain ⟨_, _, ⟨T3, L3, k3, n3⟩, -, X3, ⟨Lc3, hQ3, l3, y3, z3⟩, st3⟩ := X2.virtualBack hx (y := (⟨"java/util/ArrayList", "elementData", "(I)Ljava/lang/Object;"⟩ : MethodName)) (z := (⟨"java/util/ArrayList", "elementData", "(I)Ljava/lang/Object;"⟩ : MethodName)) hown (mvT hZ (hw _ (List.mem_of_getElem? (i := 99) rfl))) (mvT hZ (hw _ (List.mem_of_getElem? (i := 100) rfl))) (notFace_of_selects (args := #[]) (mvT hZ (hw _ (List.mem_of_getElem? (i := 102) rfl)))) (mvT hZ (hw _ (List.mem_of_getElem? (i := 102) rfl))) (mvT hZ (hw _ (List.mem_of_getElem? (i := 101) rfl))) (by decide) (backOf (W := 0) (rm16 l Z a0 hw [] a i t kt vs x h0 n0 Z0 Fe Vt hj hv) hZ (hw _ (List.mem_of_getElem? (i := 103) rfl)) (hw _ (List.mem_of_getElem? (i := 3) rfl)) (by decide) (by decide)) q3a q3c (g := (mkF m 11 #[.val (.ref a), .val (.int i)] [(.int i), (.ref a)])) rfl (by rw [hml]; rfl) (Steps.refl _) (argsL := [(.int i)]) (rest := []) (lenOf pd_6 rfl) rfl (by show 2 * 0 + _ ≤ _; exact Nat.le_of_eq rfl) (hb hby d13_11) (fun _ _ => ⟨rfl, e2, (by decide : 0 + 0 ≤ _), (by decide : 0 + 0 ≤ _)⟩)
  dsimp only [Pt.U, Pt.locs, Pt.cells, Pt.slots] at X3 l3 y3 z3 st3 hQ3
  subst l3 y3 z3
  obtain ⟨rfl, N3q, e3⟩ := hQ3
  have N3 := Fr.app N2 N3q
  refine Done.st (B := T3.setTop (mkF m 14 #[.val (.ref a), .val (.int i)] [(.ref x)])) (fun _ k => st3.trans k) ?_
  obtain ⟨fs, hr, hrun, hended, hW, hsame⟩ := X3.leave (v := some (.ref x)) (hlocks := hlk) (fun h => by rw [Bd.returns] at h; cases h)
  refine Done.fin (retR X3 hx Bd.returns rfl rfl (hb hby d13_14) hr) hrun hended ⟨_, _, rfl, ?_, ⟨_, rfl⟩, hW, hsame.mono (by decide) (by decide)⟩
  show Qrm13 Z a i t kt vs x z h0 n0 _ T3.heap _
  rw [e3]
  exact ⟨rfl, N3, rfl⟩
theorem ef_rmSI_0 (m : MethodId) (a : Addr) (li : Addr) : entryFrame m #[(.ref a), (.ref li)] 3 = mkF m 0 #[.val (.ref a), .val (.ref li), .unset] [] := by first | (simp [entryFrame, mkF, argsToLocals, Value.category]; done) | rfl
def QrmSI_0 (Z : State) (a : Addr) (li : Addr) (mc : Int32) (t : Addr) (kt : ClassId) (h0 : Heap) (n0 : Nat) (v : Option Value) (h : Heap) (L : List Loc) : Prop := ∃ (u : Addr) (ku : ClassId) , v = none ∧ Fr n0 L ∧ Keep h0 h [a] ∧ h0.size ≤ u ∧ Exa Z h a "com/example/percurso/percurso/suite/Suite" ∧ Fld Z h a "com/example/percurso/percurso/suite/Suite" "tests" "[[I" (.ref u) ∧ Arv Z h u ku (.array .int) (0 : Int32) [] .null
def PrmSI_0 (s : State) (Z : State) (a : Addr) (li : Addr) (mc : Int32) (t : Addr) (kt : ClassId) (h0 : Heap) (n0 : Nat) : State → Outcome → Prop := fun U' o => ∃ v L, o = .returned v ∧ QrmSI_0 Z a li mc t kt h0 n0 v U'.heap L ∧ FrameEnd s o U' L ({ frames := 1, cells := 1, slots := 0, locals := 13 } : Room).cells ({ frames := 1, cells := 1, slots := 0, locals := 13 } : Room).slots
set_option maxRecDepth 65536 in
set_option maxHeartbeats 40000000 in
theorem rmSI_0 (l : Launch) (Z : State) (a0 : Array Value) (hw : ∀ d ∈ tables_1, d.before a0 Z = true) (ws : List Jvm.Cond) (a : Addr) (li : Addr) (mc : Int32) (t : Addr) (kt : ClassId) (h0 : Heap) (n0 : Nat) (Z0 : n0 ≤ h0.size) (Fa : Fld Z h0 a "com/example/percurso/percurso/suite/Suite" "tests" "[[I" .null) (Es : Exa Z h0 a "com/example/percurso/percurso/suite/Suite") (gs : n0 ≤ a) (El : Exa Z h0 li "java/util/ArrayList") (Fm : Fld Z h0 li "java/util/AbstractList" "modCount" "I" (.int mc)) (Fe : Fld Z h0 li "java/util/ArrayList" "elementData" "[Ljava/lang/Object;" (.ref t)) (Fs : Fld Z h0 li "java/util/ArrayList" "size" "I" (.int (0 : Int32))) (nal : a ≠ li) :
    MetFree l (⟨"com/example/percurso/percurso/suite/Suite", "<init>", "(Ljava/util/List;)V"⟩ : MethodName) (head1 (Jvm.Cond.code (⟨"com/example/percurso/percurso/suite/Suite", "<init>", "(Ljava/util/List;)V"⟩ : MethodName) prog_192_method_1_code 3 none :: ws) ({ frames := 1, cells := 1, slots := 0, locals := 13 } : Room)) (fun aa U => aa = #[(.ref a), (.ref li)] ∧ Z.Warmed39 U.vm ∧ U.heap = h0) (fun _ _ _ _ _ => True) (fun _ U o U' => ∃ v L, o = .returned v ∧ QrmSI_0 Z a li mc t kt h0 n0 v U'.heap L ∧ FrameEnd U o U' L ({ frames := 1, cells := 1, slots := 0, locals := 13 } : Room).cells ({ frames := 1, cells := 1, slots := 0, locals := 13 } : Room).slots) := by
  refine MetFree.of_bodySF (plainFor_of_name pn_5) hisR ?_
  intro p e s m args below meth c s₁ Bd hml0 hP hK
  obtain ⟨rfl, hZ, hh⟩ := hP
  have hx := Bd.exec
  have hlk : meth.locks = false := by first | exact BodyLoose.notSynchronized Bd | exact Body.notSynchronized Bd
  have hby := Bd.bytes
  have hml : c.maxLocals = 3 := hml0
  have hown : s.vm.findClass "com/example/percurso/percurso/suite/Suite" = some m.cls := findClass_of_methodNamed Bd.named
  have hnm := (name_of_methodNamed Bd.named Bd.method).1
  have X0 : Stand p l e ({ frames := 1, cells := 1, slots := 0, locals := 13 } : Room) s m #[(.ref a), (.ref li)] below meth c s₁ [] 0 0 := Stand.of_body Bd
  have e0 : s₁.heap = h0 := by rw [← hh, Bd.state]; rfl
  have N0 := Fr.nil n0
  show Done p e below (PrmSI_0 s Z a li mc t kt h0 n0) (s₁.setTop (entryFrame m #[(.ref a), (.ref li)] 3))
  refine Done.st (B := s₁.setTop (mkF m 0 #[.val (.ref a), .val (.ref li), .unset] [])) (fun _ k => castTop (ef_rmSI_0 m a li) k) ?_
  refine Done.st (B := s₁.setTop (mkF m 1 #[.val (.ref a), .val (.ref li), .unset] [(.ref a)])) (fun _ k => XS.aloadN X0.here hx rfl (hb hby d5_0) rfl rfl k) ?_
  obtain ⟨T1, X1, e1, st1⟩ := initO X0 hx hZ hown (hw _ (List.mem_of_getElem? (i := 33) rfl)) (hw _ (List.mem_of_getElem? (i := 20) rfl)) (hw _ (List.mem_of_getElem? (i := 21) rfl)) e0 (g := (mkF m 1 #[.val (.ref a), .val (.ref li), .unset] [(.ref a)])) rfl (by rw [hml]; rfl) rfl (hb hby d5_1) (by decide) (W := 0) (by show 2 * 0 + _ ≤ _; exact Nat.le_of_eq rfl) (by decide)
  refine Done.st (B := T1.setTop (mkF m 4 #[.val (.ref a), .val (.ref li), .unset] [])) (fun _ k => st1 _ k) ?_
  refine Done.st (B := T1.setTop (mkF m 5 #[.val (.ref a), .val (.ref li), .unset] [(.ref a)])) (fun _ k => XS.aloadN X1.here hx rfl (hb hby d5_4) rfl rfl k) ?_
  refine Done.st (B := T1.setTop (mkF m 6 #[.val (.ref a), .val (.ref li), .unset] [(.ref li), (.ref a)])) (fun _ k => XS.aloadN X1.here hx rfl (hb hby d5_5) rfl rfl k) ?_
  obtain ⟨cq2, kq2, q2a, q2b, q2c⟩ := isOf hZ e1 El
  obtain ⟨_, _, ⟨T2, L2, k2, n2⟩, -, X2, ⟨Lc2, hQ2, l2, y2, z2⟩, st2⟩ := X1.interfaceBack hx (xi := (⟨"java/util/List", "size", "()I"⟩ : MethodName)) (y := (⟨"java/util/ArrayList", "size", "()I"⟩ : MethodName)) hown (mvT hZ (hw _ (List.mem_of_getElem? (i := 34) rfl))) (mvT hZ (hw _ (List.mem_of_getElem? (i := 35) rfl))) (mvT hZ (hw _ (List.mem_of_getElem? (i := 36) rfl))) (mvT hZ (hw _ (List.mem_of_getElem? (i := 37) rfl))) (mvT hZ (hw _ (List.mem_of_getElem? (i := 38) rfl))) (mvT hZ (hw _ (List.mem_of_getElem? (i := 39) rfl))) (mvT hZ (hw _ (List.mem_of_getElem? (i := 40) rfl))) (mvT hZ (hw _ (List.mem_of_getElem? (i := 41) rfl))) (by decide) (backOf (W := 1) (rm6 l Z a0 hw [] li (0 : Int32) h0 n0 Z0 Fs) hZ (hw _ (List.mem_of_getElem? (i := 42) rfl)) (hw _ (List.mem_of_getElem? (i := 3) rfl)) (by decide) (by decide)) q2a q2b q2c (g := (mkF m 6 #[.val (.ref a), .val (.ref li), .unset] [(.ref li), (.ref a)])) rfl (by rw [hml]; rfl) (Steps.refl _) (argsL := []) (rest := [(.ref a)]) (lenOf pd_7 rfl) rfl (by show 2 * 0 + _ ≤ _; exact Nat.le_of_eq rfl) (hb hby d5_6) (fun _ _ => ⟨rfl, e1, (by decide : 0 + 0 ≤ _), (by decide : 0 + 0 ≤ _)⟩)
  dsimp only [Pt.U, Pt.locs, Pt.cells, Pt.slots] at X2 l2 y2 z2 st2 hQ2
  subst l2 y2 z2
  obtain ⟨rfl, N2q, e2⟩ := hQ2
  have N2 := Fr.app N0 N2q
  refine Done.st (B := T2.setTop (mkF m 11 #[.val (.ref a), .val (.ref li), .unset] [(.int (0 : Int32)), (.ref a)])) (fun _ k => st2.trans k) ?_
  obtain ⟨T3, h3, k3, X3, e3, E3, A3, Ex3, O3, st3⟩ := newRA X2 hx hZ hown (ty := .int) (C := "[I") rfl (hw _ (List.mem_of_getElem? (i := 45) rfl)) (hw _ (List.mem_of_getElem? (i := 46) rfl)) e2 (g := (mkF m 11 #[.val (.ref a), .val (.ref li), .unset] [(.int (0 : Int32)), (.ref a)])) rfl (hb hby d5_11) rfl (by decide) (cap := 0) (by decide) (by decide) (by decide) (by decide) (ad := "[[I") rfl
  obtain ⟨b3, g3⟩ : ∃ z, z = h0.size := ⟨_, rfl⟩
  rw [← g3] at A3 Ex3 st3
  have ne_li_b3 : li ≠ b3 := Nat.ne_of_lt (Nat.lt_of_lt_of_le El.lt (Nat.le_of_eq g3.symm))
  have ne_a_b3 : a ≠ b3 := Nat.ne_of_lt (Nat.lt_of_lt_of_le Fa.lt (Nat.le_of_eq g3.symm))
  have ge_b3 : n0 ≤ b3 := Nat.le_trans Z0 (Nat.le_of_eq g3.symm)
  have sz_b3 : h0.size ≤ b3 := Nat.le_trans ((Keep.refl h0 [a])).1 (Nat.le_of_eq g3.symm)
  have Z3 : n0 ≤ h3.size := Nat.le_trans Z0 E3.1
  have V3 : Arv Z h3 b3 k3 (.array .int) (0 : Int32) [] .null := (Arv.new A3 (by decide))
  have KK3 : Keep h0 h3 [a] := ((Keep.refl h0 [a])).ext E3
  refine Done.st (B := T3.setTop (mkF m 14 #[.val (.ref a), .val (.ref li), .unset] [(.ref b3), (.ref a)])) (fun _ k => st3 _ k) ?_
  have c4 := (Exa.ext E3 Es)
  have c5 := (Fld.ext E3 Fa)
  obtain ⟨T6, h6, X6, e6, W6, st6⟩ := putF X3 hx hZ hown (host := "") (Or.inl (hw _ (List.mem_of_getElem? (i := 47) rfl))) Via.refl e3 c5 c4 (Or.inr ⟨(hw _ (List.mem_of_getElem? (i := 48) rfl)), rfl, hnm⟩) (hw _ (List.mem_of_getElem? (i := 28) rfl)) (ty := (.array (.array .int))) (by decide) rfl rfl (g := (mkF m 14 #[.val (.ref a), .val (.ref li), .unset] [(.ref b3), (.ref a)])) rfl rfl (hb hby d5_14)
  have F6 := Fld.same W6 c5
  have N6 := Fr.snoc X6 N2 gs
  have Z6 : n0 ≤ h6.size := Nat.le_trans Z3 (Keep.of_wr W6).1
  have KK6 : Keep h0 h6 [a] := (KK3).wr W6 (Or.inl (List.mem_of_getElem? (i := 0) rfl))
  refine Done.st (B := T6.setTop (mkF m 17 #[.val (.ref a), .val (.ref li), .unset] [])) (fun _ k => st6 _ k) ?_
  refine Done.st (B := T6.setTop (mkF m 18 #[.val (.ref a), .val (.ref li), .unset] [(.int (0 : Int32))])) (fun _ k => XS.iconst X6.here hx rfl (hb hby d5_17) k) ?_
  refine Done.st (B := T6.setTop (mkF m 19 #[.val (.ref a), .val (.ref li), .val (.int (0 : Int32))] [])) (fun _ k => XS.istoreN X6.here hx rfl (hb hby d5_18) rfl (l' := #[.val (.ref a), .val (.ref li), .val (.int (0 : Int32))]) rfl k) ?_
  refine Done.st (B := T6.setTop (mkF m 20 #[.val (.ref a), .val (.ref li), .val (.int (0 : Int32))] [(.int (0 : Int32))])) (fun _ k => XS.iloadN X6.here hx rfl (hb hby d5_19) rfl k) ?_
  refine Done.st (B := T6.setTop (mkF m 21 #[.val (.ref a), .val (.ref li), .val (.int (0 : Int32))] [(.ref a), (.int (0 : Int32))])) (fun _ k => XS.aloadN X6.here hx rfl (hb hby d5_20) rfl rfl k) ?_
  obtain ⟨T7, X7, e7, st7⟩ := getF X6 hx hZ hown (host := "") (Or.inl (hw _ (List.mem_of_getElem? (i := 47) rfl))) Via.refl e6 F6 (g := (mkF m 21 #[.val (.ref a), .val (.ref li), .val (.int (0 : Int32))] [(.ref a), (.int (0 : Int32))])) rfl rfl (hb hby d5_21)
  refine Done.st (B := T7.setTop (mkF m 24 #[.val (.ref a), .val (.ref li), .val (.int (0 : Int32))] [(.ref b3), (.int (0 : Int32))])) (fun _ k => st7 _ k) ?_
  have c9 := (V3.other W6 (Ne.symm ne_a_b3))
  obtain ⟨cl8, Ar8, q8, S8, M8, -⟩ := id c9
  refine Done.st (B := T7.setTop (mkF m 25 #[.val (.ref a), .val (.ref li), .val (.int (0 : Int32))] [(.int (0 : Int32)), (.int (0 : Int32))])) (fun _ k => X7.arraylength hx (by rw [e7]; exact Ar8.1) (State.isArrayOf_alike hZ.alike Ar8.2.1) (g := (mkF m 24 #[.val (.ref a), .val (.ref li), .val (.int (0 : Int32))] [(.ref b3), (.int (0 : Int32))])) rfl rfl (hb hby d5_24) _ (by rw [len_of S8 M8]; exact k)) ?_
  refine Done.st (B := T7.setTop (mkF m 56 #[.val (.ref a), .val (.ref li), .val (.int (0 : Int32))] [])) (fun _ k => XS.icmpYes X7.here hx rfl (pc0 := 25) (pc' := 56) rfl (hb hby d5_25) rfl (flt (by decide : ¬ ((0 : Int32) < (0 : Int32)))).2.1 (by decide) (by decide) k) ?_
  obtain ⟨fs, hr, hrun, hended, hW, hsame⟩ := X7.leave (v := none) (hlocks := hlk) (fun _ => rfl)
  have c11 := (Exa.wr W6 c4)
  refine Done.fin (X7.returnOut hx Bd.returns (hb hby d5_56) hr) hrun hended ⟨_, _, rfl, ?_, ⟨_, rfl⟩, hW, hsame.mono (by decide) (by decide)⟩
  show QrmSI_0 Z a li mc t kt h0 n0 _ T7.heap _
  rw [e7]
  exact ⟨b3, _, rfl, N6, KK6, sz_b3, c11, F6, c9⟩
theorem ef_rmIC_0 (m : MethodId) (a : Addr) : entryFrame m #[(.ref a)] 7 = mkF m 0 #[.val (.ref a), .unset, .unset, .unset, .unset, .unset, .unset] [] := by first | (simp [entryFrame, mkF, argsToLocals, Value.category]; done) | rfl
def QrmIC_0 (Z : State) (a : Addr) (u : Addr) (ku : ClassId) (h0 : Heap) (n0 : Nat) (v : Option Value) (h : Heap) (L : List Loc) : Prop := v = some (.long (0 : Int64)) ∧ Fr n0 L ∧ h = h0
def PrmIC_0 (s : State) (Z : State) (a : Addr) (u : Addr) (ku : ClassId) (h0 : Heap) (n0 : Nat) : State → Outcome → Prop := fun U' o => ∃ v L, o = .returned v ∧ QrmIC_0 Z a u ku h0 n0 v U'.heap L ∧ FrameEnd s o U' L ({ frames := 0, cells := 0, slots := 0, locals := 0 } : Room).cells ({ frames := 0, cells := 0, slots := 0, locals := 0 } : Room).slots
set_option maxRecDepth 65536 in
set_option maxHeartbeats 40000000 in
theorem rmIC_0 (l : Launch) (Z : State) (a0 : Array Value) (hw : ∀ d ∈ tables_1, d.before a0 Z = true) (ws : List Jvm.Cond) (a : Addr) (u : Addr) (ku : ClassId) (h0 : Heap) (n0 : Nat) (Z0 : n0 ≤ h0.size) (Fa : Fld Z h0 a "com/example/percurso/percurso/suite/Suite" "tests" "[[I" (.ref u)) (Vu : Arv Z h0 u ku (.array .int) (0 : Int32) [] .null) :
    MetFree l (⟨"com/example/percurso/percurso/suite/Suite", "inputCount", "()J"⟩ : MethodName) (head1 (Jvm.Cond.code (⟨"com/example/percurso/percurso/suite/Suite", "inputCount", "()J"⟩ : MethodName) prog_192_method_7_code 7 (some .long) :: ws) ({ frames := 0, cells := 0, slots := 0, locals := 0 } : Room)) (fun aa U => aa = #[(.ref a)] ∧ Z.Warmed39 U.vm ∧ U.heap = h0) (fun _ _ _ _ _ => True) (fun _ U o U' => ∃ v L, o = .returned v ∧ QrmIC_0 Z a u ku h0 n0 v U'.heap L ∧ FrameEnd U o U' L ({ frames := 0, cells := 0, slots := 0, locals := 0 } : Room).cells ({ frames := 0, cells := 0, slots := 0, locals := 0 } : Room).slots) := by
  refine MetFree.of_bodySF (plainFor_of_name pn_5) hisR ?_
  intro p e s m args below meth c s₁ Bd hml0 hP hK
  obtain ⟨rfl, hZ, hh⟩ := hP
  have hx := Bd.exec
  have hlk : meth.locks = false := by first | exact BodyLoose.notSynchronized Bd | exact Body.notSynchronized Bd
  have hby := Bd.bytes
  have hml : c.maxLocals = 7 := hml0
  have hown : s.vm.findClass "com/example/percurso/percurso/suite/Suite" = some m.cls := findClass_of_methodNamed Bd.named
  have hnm := (name_of_methodNamed Bd.named Bd.method).1
  have X0 : Stand p l e ({ frames := 0, cells := 0, slots := 0, locals := 0 } : Room) s m #[(.ref a)] below meth c s₁ [] 0 0 := Stand.of_body Bd
  have e0 : s₁.heap = h0 := by rw [← hh, Bd.state]; rfl
  have N0 := Fr.nil n0
  show Done p e below (PrmIC_0 s Z a u ku h0 n0) (s₁.setTop (entryFrame m #[(.ref a)] 7))
  refine Done.st (B := s₁.setTop (mkF m 0 #[.val (.ref a), .unset, .unset, .unset, .unset, .unset, .unset] [])) (fun _ k => castTop (ef_rmIC_0 m a) k) ?_
  refine Done.st (B := s₁.setTop (mkF m 1 #[.val (.ref a), .unset, .unset, .unset, .unset, .unset, .unset] [(.long (0 : Int64))])) (fun _ k => XS.lconst X0.here hx rfl (hb hby d7_0) k) ?_
  refine Done.st (B := s₁.setTop (mkF m 2 #[.val (.ref a), .val (.long (0 : Int64)), .second, .unset, .unset, .unset, .unset] [])) (fun _ k => XS.lstoreN X0.here hx rfl (hb hby d7_1) rfl (l' := #[.val (.ref a), .val (.long (0 : Int64)), .second, .unset, .unset, .unset, .unset]) rfl k) ?_
  refine Done.st (B := s₁.setTop (mkF m 3 #[.val (.ref a), .val (.long (0 : Int64)), .second, .unset, .unset, .unset, .unset] [(.ref a)])) (fun _ k => XS.aloadN X0.here hx rfl (hb hby d7_2) rfl rfl k) ?_
  obtain ⟨T1, X1, e1, st1⟩ := getF X0 hx hZ hown (host := "") (Or.inl (hw _ (List.mem_of_getElem? (i := 47) rfl))) Via.refl e0 Fa (g := (mkF m 3 #[.val (.ref a), .val (.long (0 : Int64)), .second, .unset, .unset, .unset, .unset] [(.ref a)])) rfl rfl (hb hby d7_3)
  refine Done.st (B := T1.setTop (mkF m 6 #[.val (.ref a), .val (.long (0 : Int64)), .second, .unset, .unset, .unset, .unset] [(.ref u)])) (fun _ k => st1 _ k) ?_
  refine Done.st (B := T1.setTop (mkF m 7 #[.val (.ref a), .val (.long (0 : Int64)), .second, .val (.ref u), .unset, .unset, .unset] [])) (fun _ k => XS.astoreN X1.here hx rfl (hb hby d7_6) rfl rfl (l' := #[.val (.ref a), .val (.long (0 : Int64)), .second, .val (.ref u), .unset, .unset, .unset]) rfl k) ?_
  refine Done.st (B := T1.setTop (mkF m 8 #[.val (.ref a), .val (.long (0 : Int64)), .second, .val (.ref u), .unset, .unset, .unset] [(.ref u)])) (fun _ k => XS.aloadN X1.here hx rfl (hb hby d7_7) rfl rfl k) ?_
  obtain ⟨cl2, Ar2, q2, S2, M2, -⟩ := id Vu
  refine Done.st (B := T1.setTop (mkF m 9 #[.val (.ref a), .val (.long (0 : Int64)), .second, .val (.ref u), .unset, .unset, .unset] [(.int (0 : Int32))])) (fun _ k => X1.arraylength hx (by rw [e1]; exact Ar2.1) (State.isArrayOf_alike hZ.alike Ar2.2.1) (g := (mkF m 8 #[.val (.ref a), .val (.long (0 : Int64)), .second, .val (.ref u), .unset, .unset, .unset] [(.ref u)])) rfl rfl (hb hby d7_8) _ (by rw [len_of S2 M2]; exact k)) ?_
  refine Done.st (B := T1.setTop (mkF m 11 #[.val (.ref a), .val (.long (0 : Int64)), .second, .val (.ref u), .val (.int (0 : Int32)), .unset, .unset] [])) (fun _ k => XS.istore X1.here hx rfl (hb hby d7_9) rfl (l' := #[.val (.ref a), .val (.long (0 : Int64)), .second, .val (.ref u), .val (.int (0 : Int32)), .unset, .unset]) rfl k) ?_
  refine Done.st (B := T1.setTop (mkF m 12 #[.val (.ref a), .val (.long (0 : Int64)), .second, .val (.ref u), .val (.int (0 : Int32)), .unset, .unset] [(.int (0 : Int32))])) (fun _ k => XS.iconst X1.here hx rfl (hb hby d7_11) k) ?_
  refine Done.st (B := T1.setTop (mkF m 14 #[.val (.ref a), .val (.long (0 : Int64)), .second, .val (.ref u), .val (.int (0 : Int32)), .val (.int (0 : Int32)), .unset] [])) (fun _ k => XS.istore X1.here hx rfl (hb hby d7_12) rfl (l' := #[.val (.ref a), .val (.long (0 : Int64)), .second, .val (.ref u), .val (.int (0 : Int32)), .val (.int (0 : Int32)), .unset]) rfl k) ?_
  refine Done.st (B := T1.setTop (mkF m 16 #[.val (.ref a), .val (.long (0 : Int64)), .second, .val (.ref u), .val (.int (0 : Int32)), .val (.int (0 : Int32)), .unset] [(.int (0 : Int32))])) (fun _ k => XS.iload X1.here hx rfl (hb hby d7_14) rfl k) ?_
  refine Done.st (B := T1.setTop (mkF m 18 #[.val (.ref a), .val (.long (0 : Int64)), .second, .val (.ref u), .val (.int (0 : Int32)), .val (.int (0 : Int32)), .unset] [(.int (0 : Int32)), (.int (0 : Int32))])) (fun _ k => XS.iload X1.here hx rfl (hb hby d7_16) rfl k) ?_
  refine Done.st (B := T1.setTop (mkF m 40 #[.val (.ref a), .val (.long (0 : Int64)), .second, .val (.ref u), .val (.int (0 : Int32)), .val (.int (0 : Int32)), .unset] [])) (fun _ k => XS.icmpYes X1.here hx rfl (pc0 := 18) (pc' := 40) rfl (hb hby d7_18) rfl (flt (by decide : ¬ ((0 : Int32) < (0 : Int32)))).2.1 (by decide) (by decide) k) ?_
  refine Done.st (B := T1.setTop (mkF m 41 #[.val (.ref a), .val (.long (0 : Int64)), .second, .val (.ref u), .val (.int (0 : Int32)), .val (.int (0 : Int32)), .unset] [(.long (0 : Int64))])) (fun _ k => XS.lloadN X1.here hx rfl (hb hby d7_40) rfl k) ?_
  obtain ⟨fs, hr, hrun, hended, hW, hsame⟩ := X1.leave (v := some (.long (0 : Int64))) (hlocks := hlk) (fun h => by rw [Bd.returns] at h; cases h)
  refine Done.fin (retJ X1 hx Bd.returns (hb hby d7_41) hr) hrun hended ⟨_, _, rfl, ?_, ⟨_, rfl⟩, hW, hsame.mono (by decide) (by decide)⟩
  show QrmIC_0 Z a u ku h0 n0 _ T1.heap _
  rw [e1]
  exact ⟨rfl, N0, rfl⟩
theorem ef_rmSI_1 (m : MethodId) (a : Addr) (li : Addr) : entryFrame m #[(.ref a), (.ref li)] 3 = mkF m 0 #[.val (.ref a), .val (.ref li), .unset] [] := by first | (simp [entryFrame, mkF, argsToLocals, Value.category]; done) | rfl
def QrmSI_1 (Z : State) (a : Addr) (li : Addr) (mc : Int32) (t : Addr) (kt : ClassId) (el0 : Addr) (ln0 : Int32) (h0 : Heap) (n0 : Nat) (v : Option Value) (h : Heap) (L : List Loc) : Prop := ∃ (u : Addr) (ku : ClassId) (ca0 : Addr), v = none ∧ Fr n0 L ∧ Keep h0 h [a] ∧ h0.size ≤ u ∧ Exa Z h a "com/example/percurso/percurso/suite/Suite" ∧ Fld Z h a "com/example/percurso/percurso/suite/Suite" "tests" "[[I" (.ref u) ∧ Arv Z h u ku (.array .int) (1 : Int32) [(.ref ca0)] .null ∧ IA Z h ca0 ln0
def PrmSI_1 (s : State) (Z : State) (a : Addr) (li : Addr) (mc : Int32) (t : Addr) (kt : ClassId) (el0 : Addr) (ln0 : Int32) (h0 : Heap) (n0 : Nat) : State → Outcome → Prop := fun U' o => ∃ v L, o = .returned v ∧ QrmSI_1 Z a li mc t kt el0 ln0 h0 n0 v U'.heap L ∧ FrameEnd s o U' L ({ frames := 3, cells := 2, slots := 8, locals := 42 } : Room).cells ({ frames := 3, cells := 2, slots := 8, locals := 42 } : Room).slots
set_option maxRecDepth 65536 in
set_option maxHeartbeats 40000000 in
theorem rmSI_1 (l : Launch) (Z : State) (a0 : Array Value) (hw : ∀ d ∈ tables_1, d.before a0 Z = true) (ws : List Jvm.Cond) (a : Addr) (li : Addr) (mc : Int32) (t : Addr) (kt : ClassId) (el0 : Addr) (ln0 : Int32) (h0 : Heap) (n0 : Nat) (Z0 : n0 ≤ h0.size) (Fa : Fld Z h0 a "com/example/percurso/percurso/suite/Suite" "tests" "[[I" .null) (Es : Exa Z h0 a "com/example/percurso/percurso/suite/Suite") (gs : n0 ≤ a) (El : Exa Z h0 li "java/util/ArrayList") (Fm : Fld Z h0 li "java/util/AbstractList" "modCount" "I" (.int mc)) (Fe : Fld Z h0 li "java/util/ArrayList" "elementData" "[Ljava/lang/Object;" (.ref t)) (Fs : Fld Z h0 li "java/util/ArrayList" "size" "I" (.int (1 : Int32))) (V_t : Arv Z h0 t kt (.object "java/lang/Object") (10 : Int32) [(.ref el0), .null, .null, .null, .null, .null, .null, .null, .null, .null] .null) (Y_el0 : IA Z h0 el0 ln0) (h_ln0 : 0 ≤ ln0.toInt ∧ ln0.toInt ≤ 7) (nal : a ≠ li) (nat : a ≠ t) (na_el0 : a ≠ el0) :
    MetFree l (⟨"com/example/percurso/percurso/suite/Suite", "<init>", "(Ljava/util/List;)V"⟩ : MethodName) (head1 (Jvm.Cond.code (⟨"com/example/percurso/percurso/suite/Suite", "<init>", "(Ljava/util/List;)V"⟩ : MethodName) prog_192_method_1_code 3 none :: ws) ({ frames := 3, cells := 2, slots := 8, locals := 42 } : Room)) (fun aa U => aa = #[(.ref a), (.ref li)] ∧ Z.Warmed39 U.vm ∧ U.heap = h0) (fun _ _ _ _ _ => True) (fun _ U o U' => ∃ v L, o = .returned v ∧ QrmSI_1 Z a li mc t kt el0 ln0 h0 n0 v U'.heap L ∧ FrameEnd U o U' L ({ frames := 3, cells := 2, slots := 8, locals := 42 } : Room).cells ({ frames := 3, cells := 2, slots := 8, locals := 42 } : Room).slots) := by
  refine MetFree.of_bodySF (plainFor_of_name pn_5) hisR ?_
  intro p e s m args below meth c s₁ Bd hml0 hP hK
  obtain ⟨rfl, hZ, hh⟩ := hP
  have hx := Bd.exec
  have hlk : meth.locks = false := by first | exact BodyLoose.notSynchronized Bd | exact Body.notSynchronized Bd
  have hby := Bd.bytes
  have hml : c.maxLocals = 3 := hml0
  have hown : s.vm.findClass "com/example/percurso/percurso/suite/Suite" = some m.cls := findClass_of_methodNamed Bd.named
  have hnm := (name_of_methodNamed Bd.named Bd.method).1
  have X0 : Stand p l e ({ frames := 3, cells := 2, slots := 8, locals := 42 } : Room) s m #[(.ref a), (.ref li)] below meth c s₁ [] 0 0 := Stand.of_body Bd
  have e0 : s₁.heap = h0 := by rw [← hh, Bd.state]; rfl
  have N0 := Fr.nil n0
  show Done p e below (PrmSI_1 s Z a li mc t kt el0 ln0 h0 n0) (s₁.setTop (entryFrame m #[(.ref a), (.ref li)] 3))
  refine Done.st (B := s₁.setTop (mkF m 0 #[.val (.ref a), .val (.ref li), .unset] [])) (fun _ k => castTop (ef_rmSI_1 m a li) k) ?_
  have X_el0 : Exa Z h0 el0 "[I" := by obtain ⟨_, _, _, _, _, z⟩ := Y_el0; exact z
  refine Done.st (B := s₁.setTop (mkF m 1 #[.val (.ref a), .val (.ref li), .unset] [(.ref a)])) (fun _ k => XS.aloadN X0.here hx rfl (hb hby d5_0) rfl rfl k) ?_
  obtain ⟨T1, X1, e1, st1⟩ := initO X0 hx hZ hown (hw _ (List.mem_of_getElem? (i := 33) rfl)) (hw _ (List.mem_of_getElem? (i := 20) rfl)) (hw _ (List.mem_of_getElem? (i := 21) rfl)) e0 (g := (mkF m 1 #[.val (.ref a), .val (.ref li), .unset] [(.ref a)])) rfl (by rw [hml]; rfl) rfl (hb hby d5_1) (by decide) (W := 0) (by show 2 * 0 + _ ≤ _; exact Nat.le_of_eq rfl) (by decide)
  refine Done.st (B := T1.setTop (mkF m 4 #[.val (.ref a), .val (.ref li), .unset] [])) (fun _ k => st1 _ k) ?_
  refine Done.st (B := T1.setTop (mkF m 5 #[.val (.ref a), .val (.ref li), .unset] [(.ref a)])) (fun _ k => XS.aloadN X1.here hx rfl (hb hby d5_4) rfl rfl k) ?_
  refine Done.st (B := T1.setTop (mkF m 6 #[.val (.ref a), .val (.ref li), .unset] [(.ref li), (.ref a)])) (fun _ k => XS.aloadN X1.here hx rfl (hb hby d5_5) rfl rfl k) ?_
  obtain ⟨cq2, kq2, q2a, q2b, q2c⟩ := isOf hZ e1 El
  obtain ⟨_, _, ⟨T2, L2, k2, n2⟩, -, X2, ⟨Lc2, hQ2, l2, y2, z2⟩, st2⟩ := X1.interfaceBack hx (xi := (⟨"java/util/List", "size", "()I"⟩ : MethodName)) (y := (⟨"java/util/ArrayList", "size", "()I"⟩ : MethodName)) hown (mvT hZ (hw _ (List.mem_of_getElem? (i := 34) rfl))) (mvT hZ (hw _ (List.mem_of_getElem? (i := 35) rfl))) (mvT hZ (hw _ (List.mem_of_getElem? (i := 36) rfl))) (mvT hZ (hw _ (List.mem_of_getElem? (i := 37) rfl))) (mvT hZ (hw _ (List.mem_of_getElem? (i := 38) rfl))) (mvT hZ (hw _ (List.mem_of_getElem? (i := 39) rfl))) (mvT hZ (hw _ (List.mem_of_getElem? (i := 40) rfl))) (mvT hZ (hw _ (List.mem_of_getElem? (i := 41) rfl))) (by decide) (backOf (W := 1) (rm6 l Z a0 hw [] li (1 : Int32) h0 n0 Z0 Fs) hZ (hw _ (List.mem_of_getElem? (i := 42) rfl)) (hw _ (List.mem_of_getElem? (i := 3) rfl)) (by decide) (by decide)) q2a q2b q2c (g := (mkF m 6 #[.val (.ref a), .val (.ref li), .unset] [(.ref li), (.ref a)])) rfl (by rw [hml]; rfl) (Steps.refl _) (argsL := []) (rest := [(.ref a)]) (lenOf pd_7 rfl) rfl (by show 2 * 0 + _ ≤ _; exact Nat.le_of_eq rfl) (hb hby d5_6) (fun _ _ => ⟨rfl, e1, (by decide : 0 + 0 ≤ _), (by decide : 0 + 0 ≤ _)⟩)
  dsimp only [Pt.U, Pt.locs, Pt.cells, Pt.slots] at X2 l2 y2 z2 st2 hQ2
  subst l2 y2 z2
  obtain ⟨rfl, N2q, e2⟩ := hQ2
  have N2 := Fr.app N0 N2q
  refine Done.st (B := T2.setTop (mkF m 11 #[.val (.ref a), .val (.ref li), .unset] [(.int (1 : Int32)), (.ref a)])) (fun _ k => st2.trans k) ?_
  obtain ⟨T3, h3, k3, X3, e3, E3, A3, Ex3, O3, st3⟩ := newRA X2 hx hZ hown (ty := .int) (C := "[I") rfl (hw _ (List.mem_of_getElem? (i := 45) rfl)) (hw _ (List.mem_of_getElem? (i := 46) rfl)) e2 (g := (mkF m 11 #[.val (.ref a), .val (.ref li), .unset] [(.int (1 : Int32)), (.ref a)])) rfl (hb hby d5_11) rfl (by decide) (cap := 1) (by decide) (by decide) (by decide) (by decide) (ad := "[[I") rfl
  obtain ⟨b3, g3⟩ : ∃ z, z = h0.size := ⟨_, rfl⟩
  rw [← g3] at A3 Ex3 st3
  have ne_li_b3 : li ≠ b3 := Nat.ne_of_lt (Nat.lt_of_lt_of_le El.lt (Nat.le_of_eq g3.symm))
  have ne_a_b3 : a ≠ b3 := Nat.ne_of_lt (Nat.lt_of_lt_of_le Fa.lt (Nat.le_of_eq g3.symm))
  have ne_t_b3 : t ≠ b3 := Nat.ne_of_lt (Nat.lt_of_lt_of_le V_t.lt (Nat.le_of_eq g3.symm))
  have ne_el0_b3 : el0 ≠ b3 := Nat.ne_of_lt (Nat.lt_of_lt_of_le Y_el0.lt (Nat.le_of_eq g3.symm))
  have ge_b3 : n0 ≤ b3 := Nat.le_trans Z0 (Nat.le_of_eq g3.symm)
  have sz_b3 : h0.size ≤ b3 := Nat.le_trans ((Keep.refl h0 [a])).1 (Nat.le_of_eq g3.symm)
  have Z3 : n0 ≤ h3.size := Nat.le_trans Z0 E3.1
  have V3 : Arv Z h3 b3 k3 (.array .int) (1 : Int32) [.null] .null := (Arv.new A3 (by decide)).pad (pad_rep [] .null 1)
  have KK3 : Keep h0 h3 [a] := ((Keep.refl h0 [a])).ext E3
  refine Done.st (B := T3.setTop (mkF m 14 #[.val (.ref a), .val (.ref li), .unset] [(.ref b3), (.ref a)])) (fun _ k => st3 _ k) ?_
  have c4 := (Exa.ext E3 Es)
  have c5 := (Fld.ext E3 Fa)
  obtain ⟨T6, h6, X6, e6, W6, st6⟩ := putF X3 hx hZ hown (host := "") (Or.inl (hw _ (List.mem_of_getElem? (i := 47) rfl))) Via.refl e3 c5 c4 (Or.inr ⟨(hw _ (List.mem_of_getElem? (i := 48) rfl)), rfl, hnm⟩) (hw _ (List.mem_of_getElem? (i := 28) rfl)) (ty := (.array (.array .int))) (by decide) rfl rfl (g := (mkF m 14 #[.val (.ref a), .val (.ref li), .unset] [(.ref b3), (.ref a)])) rfl rfl (hb hby d5_14)
  have F6 := Fld.same W6 c5
  have N6 := Fr.snoc X6 N2 gs
  have Z6 : n0 ≤ h6.size := Nat.le_trans Z3 (Keep.of_wr W6).1
  have KK6 : Keep h0 h6 [a] := (KK3).wr W6 (Or.inl (List.mem_of_getElem? (i := 0) rfl))
  refine Done.st (B := T6.setTop (mkF m 17 #[.val (.ref a), .val (.ref li), .unset] [])) (fun _ k => st6 _ k) ?_
  refine Done.st (B := T6.setTop (mkF m 18 #[.val (.ref a), .val (.ref li), .unset] [(.int (0 : Int32))])) (fun _ k => XS.iconst X6.here hx rfl (hb hby d5_17) k) ?_
  refine Done.st (B := T6.setTop (mkF m 19 #[.val (.ref a), .val (.ref li), .val (.int (0 : Int32))] [])) (fun _ k => XS.istoreN X6.here hx rfl (hb hby d5_18) rfl (l' := #[.val (.ref a), .val (.ref li), .val (.int (0 : Int32))]) rfl k) ?_
  refine Done.st (B := T6.setTop (mkF m 20 #[.val (.ref a), .val (.ref li), .val (.int (0 : Int32))] [(.int (0 : Int32))])) (fun _ k => XS.iloadN X6.here hx rfl (hb hby d5_19) rfl k) ?_
  refine Done.st (B := T6.setTop (mkF m 21 #[.val (.ref a), .val (.ref li), .val (.int (0 : Int32))] [(.ref a), (.int (0 : Int32))])) (fun _ k => XS.aloadN X6.here hx rfl (hb hby d5_20) rfl rfl k) ?_
  obtain ⟨T7, X7, e7, st7⟩ := getF X6 hx hZ hown (host := "") (Or.inl (hw _ (List.mem_of_getElem? (i := 47) rfl))) Via.refl e6 F6 (g := (mkF m 21 #[.val (.ref a), .val (.ref li), .val (.int (0 : Int32))] [(.ref a), (.int (0 : Int32))])) rfl rfl (hb hby d5_21)
  refine Done.st (B := T7.setTop (mkF m 24 #[.val (.ref a), .val (.ref li), .val (.int (0 : Int32))] [(.ref b3), (.int (0 : Int32))])) (fun _ k => st7 _ k) ?_
  have c9 := (V3.other W6 (Ne.symm ne_a_b3))
  obtain ⟨cl8, Ar8, q8, S8, M8, -⟩ := id c9
  refine Done.st (B := T7.setTop (mkF m 25 #[.val (.ref a), .val (.ref li), .val (.int (0 : Int32))] [(.int (1 : Int32)), (.int (0 : Int32))])) (fun _ k => X7.arraylength hx (by rw [e7]; exact Ar8.1) (State.isArrayOf_alike hZ.alike Ar8.2.1) (g := (mkF m 24 #[.val (.ref a), .val (.ref li), .val (.int (0 : Int32))] [(.ref b3), (.int (0 : Int32))])) rfl rfl (hb hby d5_24) _ (by rw [len_of S8 M8]; exact k)) ?_
  refine Done.st (B := T7.setTop (mkF m 28 #[.val (.ref a), .val (.ref li), .val (.int (0 : Int32))] [])) (fun _ k => XS.icmpNo X7.here hx rfl (hb hby d5_25) rfl (tlt (by decide : (0 : Int32) < (1 : Int32))).2.1 k) ?_
  refine Done.st (B := T7.setTop (mkF m 29 #[.val (.ref a), .val (.ref li), .val (.int (0 : Int32))] [(.ref a)])) (fun _ k => XS.aloadN X7.here hx rfl (hb hby d5_28) rfl rfl k) ?_
  obtain ⟨T10, X10, e10, st10⟩ := getF X7 hx hZ hown (host := "") (Or.inl (hw _ (List.mem_of_getElem? (i := 47) rfl))) Via.refl e7 F6 (g := (mkF m 29 #[.val (.ref a), .val (.ref li), .val (.int (0 : Int32))] [(.ref a)])) rfl rfl (hb hby d5_29)
  refine Done.st (B := T10.setTop (mkF m 32 #[.val (.ref a), .val (.ref li), .val (.int (0 : Int32))] [(.ref b3)])) (fun _ k => st10 _ k) ?_
  refine Done.st (B := T10.setTop (mkF m 33 #[.val (.ref a), .val (.ref li), .val (.int (0 : Int32))] [(.int (0 : Int32)), (.ref b3)])) (fun _ k => XS.iloadN X10.here hx rfl (hb hby d5_32) rfl k) ?_
  refine Done.st (B := T10.setTop (mkF m 34 #[.val (.ref a), .val (.ref li), .val (.int (0 : Int32))] [(.ref li), (.int (0 : Int32)), (.ref b3)])) (fun _ k => XS.aloadN X10.here hx rfl (hb hby d5_33) rfl rfl k) ?_
  refine Done.st (B := T10.setTop (mkF m 35 #[.val (.ref a), .val (.ref li), .val (.int (0 : Int32))] [(.int (0 : Int32)), (.ref li), (.int (0 : Int32)), (.ref b3)])) (fun _ k => XS.iloadN X10.here hx rfl (hb hby d5_34) rfl k) ?_
  have c11 := (Fld.other W6 (Fld.ext E3 Fe) (Or.inl (Ne.symm nal)))
  have c12 := ((V_t.ext E3).other W6 (Ne.symm nat))
  have c13 := (Fld.other W6 (Fld.ext E3 Fs) (Or.inl (Ne.symm nal)))
  have c14 := (Exa.wr W6 (Exa.ext E3 El))
  obtain ⟨cq15, kq15, q15a, q15b, q15c⟩ := isOf hZ e10 c14
  obtain ⟨_, _, ⟨T15, L15, k15, n15⟩, -, X15, ⟨Lc15, hQ15, l15, y15, z15⟩, st15⟩ := X10.interfaceBack hx (xi := (⟨"java/util/List", "get", "(I)Ljava/lang/Object;"⟩ : MethodName)) (y := (⟨"java/util/ArrayList", "get", "(I)Ljava/lang/Object;"⟩ : MethodName)) hown (mvT hZ (hw _ (List.mem_of_getElem? (i := 83) rfl))) (mvT hZ (hw _ (List.mem_of_getElem? (i := 84) rfl))) (mvT hZ (hw _ (List.mem_of_getElem? (i := 85) rfl))) (mvT hZ (hw _ (List.mem_of_getElem? (i := 86) rfl))) (mvT hZ (hw _ (List.mem_of_getElem? (i := 87) rfl))) (mvT hZ (hw _ (List.mem_of_getElem? (i := 88) rfl))) (mvT hZ (hw _ (List.mem_of_getElem? (i := 89) rfl))) (mvT hZ (hw _ (List.mem_of_getElem? (i := 41) rfl))) (by decide) (backOf (W := 2) (rm13 l Z a0 hw [] li (0 : Int32) t kt [(.ref el0), .null, .null, .null, .null, .null, .null, .null, .null, .null] el0 (1 : Int32) h6 n0 Z6 c11 c12 ⟨by decide, by decide⟩ rfl c13 c14 ⟨by decide, by decide⟩) hZ (hw _ (List.mem_of_getElem? (i := 90) rfl)) (hw _ (List.mem_of_getElem? (i := 3) rfl)) (by decide) (by decide)) q15a q15b q15c (g := (mkF m 35 #[.val (.ref a), .val (.ref li), .val (.int (0 : Int32))] [(.int (0 : Int32)), (.ref li), (.int (0 : Int32)), (.ref b3)])) rfl (by rw [hml]; rfl) (Steps.refl _) (argsL := [(.int (0 : Int32))]) (rest := [(.int (0 : Int32)), (.ref b3)]) (lenOf pd_6 rfl) rfl (by show 2 * 0 + _ ≤ _; exact Nat.le_of_eq rfl) (hb hby d5_35) (fun _ _ => ⟨rfl, e10, (by decide : 1 + 0 ≤ _), (by decide : 1 + 0 ≤ _)⟩)
  dsimp only [Pt.U, Pt.locs, Pt.cells, Pt.slots] at X15 l15 y15 z15 st15 hQ15
  subst l15 y15 z15
  obtain ⟨rfl, N15q, e15⟩ := hQ15
  have N15 := Fr.app N6 N15q
  refine Done.st (B := T15.setTop (mkF m 40 #[.val (.ref a), .val (.ref li), .val (.int (0 : Int32))] [(.ref el0), (.int (0 : Int32)), (.ref b3)])) (fun _ k => st15.trans k) ?_
  have c17 := (Exa.wr W6 (Exa.ext E3 X_el0))
  obtain ⟨T16, X16, e16, st16⟩ := castY X15 hx hZ hown (hw _ (List.mem_of_getElem? (i := 45) rfl)) e15 (Ins.self c17) (g := (mkF m 40 #[.val (.ref a), .val (.ref li), .val (.int (0 : Int32))] [(.ref el0), (.int (0 : Int32)), (.ref b3)])) rfl rfl (hb hby d5_40)
  refine Done.st (B := T16.setTop (mkF m 43 #[.val (.ref a), .val (.ref li), .val (.int (0 : Int32))] [(.ref el0), (.int (0 : Int32)), (.ref b3)])) (fun _ k => st16 _ k) ?_
  have c19 := ((Y_el0.ext E3).other W6 (Ne.symm na_el0))
  obtain ⟨kk18, hs18, vs18, dv18, FF18, -⟩ := id c19
  obtain ⟨T18, h18, X18, e18, E18, A18, Ex18, st18⟩ := cloneH X16 hx hZ hown (hw _ (List.mem_of_getElem? (i := 105) rfl)) (hw _ (List.mem_of_getElem? (i := 106) rfl)) (hw _ (List.mem_of_getElem? (i := 110) rfl)) (hw _ (List.mem_of_getElem? (i := 108) rfl)) (hw _ (List.mem_of_getElem? (i := 109) rfl)) (hw _ (List.mem_of_getElem? (i := 111) rfl)) e16 FF18 c17 (g := (mkF m 43 #[.val (.ref a), .val (.ref li), .val (.int (0 : Int32))] [(.ref el0), (.int (0 : Int32)), (.ref b3)])) rfl (by rw [hml]; rfl) rfl (hb hby d5_43) (by decide) (W := 2) (by show 2 * 0 + _ ≤ _; exact Nat.le_of_eq rfl) (by decide) (cap := 7) (own_cap h_ln0) (by decide) (by decide)
  obtain ⟨b18, g18⟩ : ∃ z, z = h6.size := ⟨_, rfl⟩
  rw [← g18] at A18 Ex18 st18
  have ne_li_b18 : li ≠ b18 := Nat.ne_of_lt (Nat.lt_of_lt_of_le c14.lt (Nat.le_of_eq g18.symm))
  have ne_a_b18 : a ≠ b18 := Nat.ne_of_lt (Nat.lt_of_lt_of_le F6.lt (Nat.le_of_eq g18.symm))
  have ne_t_b18 : t ≠ b18 := Nat.ne_of_lt (Nat.lt_of_lt_of_le c12.lt (Nat.le_of_eq g18.symm))
  have ne_el0_b18 : el0 ≠ b18 := Nat.ne_of_lt (Nat.lt_of_lt_of_le c19.lt (Nat.le_of_eq g18.symm))
  have ne_b3_b18 : b3 ≠ b18 := Nat.ne_of_lt (Nat.lt_of_lt_of_le c9.lt (Nat.le_of_eq g18.symm))
  have ge_b18 : n0 ≤ b18 := Nat.le_trans Z6 (Nat.le_of_eq g18.symm)
  have sz_b18 : h0.size ≤ b18 := Nat.le_trans (KK6).1 (Nat.le_of_eq g18.symm)
  have Z18 : n0 ≤ h18.size := Nat.le_trans Z6 E18.1
  have Y18 : IA Z h18 b18 ln0 := ⟨_, _, _, _, A18, Ex18⟩
  have KK18 : Keep h0 h18 [a] := (KK6).ext E18
  refine Done.st (B := T18.setTop (mkF m 46 #[.val (.ref a), .val (.ref li), .val (.int (0 : Int32))] [(.ref b18), (.int (0 : Int32)), (.ref b3)])) (fun _ k => st18 _ k) ?_
  obtain ⟨T20, X20, e20, st20⟩ := castY X18 hx hZ hown (hw _ (List.mem_of_getElem? (i := 45) rfl)) e18 (Ins.self Ex18) (g := (mkF m 46 #[.val (.ref a), .val (.ref li), .val (.int (0 : Int32))] [(.ref b18), (.int (0 : Int32)), (.ref b3)])) rfl rfl (hb hby d5_46)
  refine Done.st (B := T20.setTop (mkF m 49 #[.val (.ref a), .val (.ref li), .val (.int (0 : Int32))] [(.ref b18), (.int (0 : Int32)), (.ref b3)])) (fun _ k => st20 _ k) ?_
  have c22 := (c9.ext E18)
  obtain ⟨cl21, Ar21, q21, S21, M21, H21, G21⟩ := id c22
  have hin21 : ¬ ((0 : Int32) < 0 ∨ cl21.slots.size ≤ ((0 : Int32)).toNatClampNeg) := inb_of S21 ⟨by decide, by decide⟩
  obtain ⟨T21, h21, X21, e21, W21, st21⟩ := stR X20 hx hZ e20 Ar21 (j := (0 : Int32)) hin21 rfl (Sto.ofVA Ar21 q21 O3 (Ins.self Ex18)) (g := (mkF m 49 #[.val (.ref a), .val (.ref li), .val (.int (0 : Int32))] [(.ref b18), (.int (0 : Int32)), (.ref b3)])) rfl rfl (hb hby d5_49)
  have V21 : Arv Z h21 b3 k3 (.array .int) (1 : Int32) [(.ref b18)] .null := Arv.set Ar21 q21 S21 M21 H21 G21 rfl W21 0 rfl (Nat.le_of_ble_eq_true rfl)
  have N21 := Fr.snoc X21 N15 ge_b3
  have Z21 : n0 ≤ h21.size := Nat.le_trans Z18 (Keep.of_wr W21).1
  have KK21 : Keep h0 h21 [a] := (KK18).wr W21 (Or.inr sz_b3)
  refine Done.st (B := T21.setTop (mkF m 50 #[.val (.ref a), .val (.ref li), .val (.int (0 : Int32))] [])) (fun _ k => st21 _ k) ?_
  refine Done.st (B := T21.setTop (mkF m 53 #[.val (.ref a), .val (.ref li), .val (.int (1 : Int32))] [])) (fun _ k => XS.iinc X21.here hx rfl (hb hby d5_50) rfl (l' := #[.val (.ref a), .val (.ref li), .val (.int (1 : Int32))]) rfl k) ?_
  refine Done.st (B := T21.setTop (mkF m 19 #[.val (.ref a), .val (.ref li), .val (.int (1 : Int32))] [])) (fun _ k => XS.goto X21.here hx rfl (pc0 := 53) (pc' := 19) rfl (hb hby d5_53) (by decide) (by decide) k) ?_
  refine Done.st (B := T21.setTop (mkF m 20 #[.val (.ref a), .val (.ref li), .val (.int (1 : Int32))] [(.int (1 : Int32))])) (fun _ k => XS.iloadN X21.here hx rfl (hb hby d5_19) rfl k) ?_
  refine Done.st (B := T21.setTop (mkF m 21 #[.val (.ref a), .val (.ref li), .val (.int (1 : Int32))] [(.ref a), (.int (1 : Int32))])) (fun _ k => XS.aloadN X21.here hx rfl (hb hby d5_20) rfl rfl k) ?_
  have c24 := (Fld.other W21 (Fld.ext E18 F6) (Or.inl ne_a_b3))
  obtain ⟨T23, X23, e23, st23⟩ := getF X21 hx hZ hown (host := "") (Or.inl (hw _ (List.mem_of_getElem? (i := 47) rfl))) Via.refl e21 c24 (g := (mkF m 21 #[.val (.ref a), .val (.ref li), .val (.int (1 : Int32))] [(.ref a), (.int (1 : Int32))])) rfl rfl (hb hby d5_21)
  refine Done.st (B := T23.setTop (mkF m 24 #[.val (.ref a), .val (.ref li), .val (.int (1 : Int32))] [(.ref b3), (.int (1 : Int32))])) (fun _ k => st23 _ k) ?_
  obtain ⟨cl25, Ar25, q25, S25, M25, -⟩ := id V21
  refine Done.st (B := T23.setTop (mkF m 25 #[.val (.ref a), .val (.ref li), .val (.int (1 : Int32))] [(.int (1 : Int32)), (.int (1 : Int32))])) (fun _ k => X23.arraylength hx (by rw [e23]; exact Ar25.1) (State.isArrayOf_alike hZ.alike Ar25.2.1) (g := (mkF m 24 #[.val (.ref a), .val (.ref li), .val (.int (1 : Int32))] [(.ref b3), (.int (1 : Int32))])) rfl rfl (hb hby d5_24) _ (by rw [len_of S25 M25]; exact k)) ?_
  refine Done.st (B := T23.setTop (mkF m 56 #[.val (.ref a), .val (.ref li), .val (.int (1 : Int32))] [])) (fun _ k => XS.icmpYes X23.here hx rfl (pc0 := 25) (pc' := 56) rfl (hb hby d5_25) rfl (flt (by decide : ¬ ((1 : Int32) < (1 : Int32)))).2.1 (by decide) (by decide) k) ?_
  obtain ⟨fs, hr, hrun, hended, hW, hsame⟩ := X23.leave (v := none) (hlocks := hlk) (fun _ => rfl)
  have c27 := (Exa.wr W21 (Exa.ext E18 (Exa.wr W6 c4)))
  have c28 := (Y18.other W21 (Ne.symm ne_b3_b18))
  refine Done.fin (X23.returnOut hx Bd.returns (hb hby d5_56) hr) hrun hended ⟨_, _, rfl, ?_, ⟨_, rfl⟩, hW, hsame.mono (by decide) (by decide)⟩
  show QrmSI_1 Z a li mc t kt el0 ln0 h0 n0 _ T23.heap _
  rw [e23]
  exact ⟨b3, _, b18, rfl, N21, KK21, sz_b3, c27, c24, V21, c28⟩
theorem ef_rmIC_1 (m : MethodId) (a : Addr) : entryFrame m #[(.ref a)] 7 = mkF m 0 #[.val (.ref a), .unset, .unset, .unset, .unset, .unset, .unset] [] := by first | (simp [entryFrame, mkF, argsToLocals, Value.category]; done) | rfl
def QrmIC_1 (Z : State) (a : Addr) (u : Addr) (ku : ClassId) (ca0 : Addr) (ln0 : Int32) (h0 : Heap) (n0 : Nat) (v : Option Value) (h : Heap) (L : List Loc) : Prop := v = some (.long ((0 : Int64) + (ln0.toInt64))) ∧ Fr n0 L ∧ h = h0
def PrmIC_1 (s : State) (Z : State) (a : Addr) (u : Addr) (ku : ClassId) (ca0 : Addr) (ln0 : Int32) (h0 : Heap) (n0 : Nat) : State → Outcome → Prop := fun U' o => ∃ v L, o = .returned v ∧ QrmIC_1 Z a u ku ca0 ln0 h0 n0 v U'.heap L ∧ FrameEnd s o U' L ({ frames := 0, cells := 0, slots := 0, locals := 0 } : Room).cells ({ frames := 0, cells := 0, slots := 0, locals := 0 } : Room).slots
set_option maxRecDepth 65536 in
set_option maxHeartbeats 40000000 in
theorem rmIC_1 (l : Launch) (Z : State) (a0 : Array Value) (hw : ∀ d ∈ tables_1, d.before a0 Z = true) (ws : List Jvm.Cond) (a : Addr) (u : Addr) (ku : ClassId) (ca0 : Addr) (ln0 : Int32) (h0 : Heap) (n0 : Nat) (Z0 : n0 ≤ h0.size) (Fa : Fld Z h0 a "com/example/percurso/percurso/suite/Suite" "tests" "[[I" (.ref u)) (Vu : Arv Z h0 u ku (.array .int) (1 : Int32) [(.ref ca0)] .null) (Y_ca0 : IA Z h0 ca0 ln0) :
    MetFree l (⟨"com/example/percurso/percurso/suite/Suite", "inputCount", "()J"⟩ : MethodName) (head1 (Jvm.Cond.code (⟨"com/example/percurso/percurso/suite/Suite", "inputCount", "()J"⟩ : MethodName) prog_192_method_7_code 7 (some .long) :: ws) ({ frames := 0, cells := 0, slots := 0, locals := 0 } : Room)) (fun aa U => aa = #[(.ref a)] ∧ Z.Warmed39 U.vm ∧ U.heap = h0) (fun _ _ _ _ _ => True) (fun _ U o U' => ∃ v L, o = .returned v ∧ QrmIC_1 Z a u ku ca0 ln0 h0 n0 v U'.heap L ∧ FrameEnd U o U' L ({ frames := 0, cells := 0, slots := 0, locals := 0 } : Room).cells ({ frames := 0, cells := 0, slots := 0, locals := 0 } : Room).slots) := by
  refine MetFree.of_bodySF (plainFor_of_name pn_5) hisR ?_
  intro p e s m args below meth c s₁ Bd hml0 hP hK
  obtain ⟨rfl, hZ, hh⟩ := hP
  have hx := Bd.exec
  have hlk : meth.locks = false := by first | exact BodyLoose.notSynchronized Bd | exact Body.notSynchronized Bd
  have hby := Bd.bytes
  have hml : c.maxLocals = 7 := hml0
  have hown : s.vm.findClass "com/example/percurso/percurso/suite/Suite" = some m.cls := findClass_of_methodNamed Bd.named
  have hnm := (name_of_methodNamed Bd.named Bd.method).1
  have X0 : Stand p l e ({ frames := 0, cells := 0, slots := 0, locals := 0 } : Room) s m #[(.ref a)] below meth c s₁ [] 0 0 := Stand.of_body Bd
  have e0 : s₁.heap = h0 := by rw [← hh, Bd.state]; rfl
  have N0 := Fr.nil n0
  show Done p e below (PrmIC_1 s Z a u ku ca0 ln0 h0 n0) (s₁.setTop (entryFrame m #[(.ref a)] 7))
  refine Done.st (B := s₁.setTop (mkF m 0 #[.val (.ref a), .unset, .unset, .unset, .unset, .unset, .unset] [])) (fun _ k => castTop (ef_rmIC_1 m a) k) ?_
  refine Done.st (B := s₁.setTop (mkF m 1 #[.val (.ref a), .unset, .unset, .unset, .unset, .unset, .unset] [(.long (0 : Int64))])) (fun _ k => XS.lconst X0.here hx rfl (hb hby d7_0) k) ?_
  refine Done.st (B := s₁.setTop (mkF m 2 #[.val (.ref a), .val (.long (0 : Int64)), .second, .unset, .unset, .unset, .unset] [])) (fun _ k => XS.lstoreN X0.here hx rfl (hb hby d7_1) rfl (l' := #[.val (.ref a), .val (.long (0 : Int64)), .second, .unset, .unset, .unset, .unset]) rfl k) ?_
  refine Done.st (B := s₁.setTop (mkF m 3 #[.val (.ref a), .val (.long (0 : Int64)), .second, .unset, .unset, .unset, .unset] [(.ref a)])) (fun _ k => XS.aloadN X0.here hx rfl (hb hby d7_2) rfl rfl k) ?_
  obtain ⟨T1, X1, e1, st1⟩ := getF X0 hx hZ hown (host := "") (Or.inl (hw _ (List.mem_of_getElem? (i := 47) rfl))) Via.refl e0 Fa (g := (mkF m 3 #[.val (.ref a), .val (.long (0 : Int64)), .second, .unset, .unset, .unset, .unset] [(.ref a)])) rfl rfl (hb hby d7_3)
  refine Done.st (B := T1.setTop (mkF m 6 #[.val (.ref a), .val (.long (0 : Int64)), .second, .unset, .unset, .unset, .unset] [(.ref u)])) (fun _ k => st1 _ k) ?_
  refine Done.st (B := T1.setTop (mkF m 7 #[.val (.ref a), .val (.long (0 : Int64)), .second, .val (.ref u), .unset, .unset, .unset] [])) (fun _ k => XS.astoreN X1.here hx rfl (hb hby d7_6) rfl rfl (l' := #[.val (.ref a), .val (.long (0 : Int64)), .second, .val (.ref u), .unset, .unset, .unset]) rfl k) ?_
  refine Done.st (B := T1.setTop (mkF m 8 #[.val (.ref a), .val (.long (0 : Int64)), .second, .val (.ref u), .unset, .unset, .unset] [(.ref u)])) (fun _ k => XS.aloadN X1.here hx rfl (hb hby d7_7) rfl rfl k) ?_
  obtain ⟨cl2, Ar2, q2, S2, M2, -⟩ := id Vu
  refine Done.st (B := T1.setTop (mkF m 9 #[.val (.ref a), .val (.long (0 : Int64)), .second, .val (.ref u), .unset, .unset, .unset] [(.int (1 : Int32))])) (fun _ k => X1.arraylength hx (by rw [e1]; exact Ar2.1) (State.isArrayOf_alike hZ.alike Ar2.2.1) (g := (mkF m 8 #[.val (.ref a), .val (.long (0 : Int64)), .second, .val (.ref u), .unset, .unset, .unset] [(.ref u)])) rfl rfl (hb hby d7_8) _ (by rw [len_of S2 M2]; exact k)) ?_
  refine Done.st (B := T1.setTop (mkF m 11 #[.val (.ref a), .val (.long (0 : Int64)), .second, .val (.ref u), .val (.int (1 : Int32)), .unset, .unset] [])) (fun _ k => XS.istore X1.here hx rfl (hb hby d7_9) rfl (l' := #[.val (.ref a), .val (.long (0 : Int64)), .second, .val (.ref u), .val (.int (1 : Int32)), .unset, .unset]) rfl k) ?_
  refine Done.st (B := T1.setTop (mkF m 12 #[.val (.ref a), .val (.long (0 : Int64)), .second, .val (.ref u), .val (.int (1 : Int32)), .unset, .unset] [(.int (0 : Int32))])) (fun _ k => XS.iconst X1.here hx rfl (hb hby d7_11) k) ?_
  refine Done.st (B := T1.setTop (mkF m 14 #[.val (.ref a), .val (.long (0 : Int64)), .second, .val (.ref u), .val (.int (1 : Int32)), .val (.int (0 : Int32)), .unset] [])) (fun _ k => XS.istore X1.here hx rfl (hb hby d7_12) rfl (l' := #[.val (.ref a), .val (.long (0 : Int64)), .second, .val (.ref u), .val (.int (1 : Int32)), .val (.int (0 : Int32)), .unset]) rfl k) ?_
  refine Done.st (B := T1.setTop (mkF m 16 #[.val (.ref a), .val (.long (0 : Int64)), .second, .val (.ref u), .val (.int (1 : Int32)), .val (.int (0 : Int32)), .unset] [(.int (0 : Int32))])) (fun _ k => XS.iload X1.here hx rfl (hb hby d7_14) rfl k) ?_
  refine Done.st (B := T1.setTop (mkF m 18 #[.val (.ref a), .val (.long (0 : Int64)), .second, .val (.ref u), .val (.int (1 : Int32)), .val (.int (0 : Int32)), .unset] [(.int (1 : Int32)), (.int (0 : Int32))])) (fun _ k => XS.iload X1.here hx rfl (hb hby d7_16) rfl k) ?_
  refine Done.st (B := T1.setTop (mkF m 21 #[.val (.ref a), .val (.long (0 : Int64)), .second, .val (.ref u), .val (.int (1 : Int32)), .val (.int (0 : Int32)), .unset] [])) (fun _ k => XS.icmpNo X1.here hx rfl (hb hby d7_18) rfl (tlt (by decide : (0 : Int32) < (1 : Int32))).2.1 k) ?_
  refine Done.st (B := T1.setTop (mkF m 22 #[.val (.ref a), .val (.long (0 : Int64)), .second, .val (.ref u), .val (.int (1 : Int32)), .val (.int (0 : Int32)), .unset] [(.ref u)])) (fun _ k => XS.aloadN X1.here hx rfl (hb hby d7_21) rfl rfl k) ?_
  refine Done.st (B := T1.setTop (mkF m 24 #[.val (.ref a), .val (.long (0 : Int64)), .second, .val (.ref u), .val (.int (1 : Int32)), .val (.int (0 : Int32)), .unset] [(.int (0 : Int32)), (.ref u)])) (fun _ k => XS.iload X1.here hx rfl (hb hby d7_22) rfl k) ?_
  obtain ⟨cl3, Ar3, q3, S3, M3, H3, G3⟩ := id Vu
  have hin3 : ¬ ((0 : Int32) < 0 ∨ cl3.slots.size ≤ ((0 : Int32)).toNatClampNeg) := inb_of S3 ⟨by decide, by decide⟩
  have hat3 : cl3.slots[((0 : Int32)).toNatClampNeg]? = some (.ref ca0) := Has.at H3 hin3 rfl
  refine Done.st (B := T1.setTop (mkF m 25 #[.val (.ref a), .val (.long (0 : Int64)), .second, .val (.ref u), .val (.int (1 : Int32)), .val (.int (0 : Int32)), .unset] [(.ref ca0)])) (fun _ k => X1.aaload hx (j := (0 : Int32)) (v := (.ref ca0)) (by rw [e1]; exact Ar3.1) (State.isArrayOf_alike hZ.alike Ar3.2.1) rfl Ar3.2.2 hin3 hat3 (g := (mkF m 24 #[.val (.ref a), .val (.long (0 : Int64)), .second, .val (.ref u), .val (.int (1 : Int32)), .val (.int (0 : Int32)), .unset] [(.int (0 : Int32)), (.ref u)])) rfl rfl (hb hby d7_24) _ k) ?_
  refine Done.st (B := T1.setTop (mkF m 27 #[.val (.ref a), .val (.long (0 : Int64)), .second, .val (.ref u), .val (.int (1 : Int32)), .val (.int (0 : Int32)), .val (.ref ca0)] [])) (fun _ k => XS.astore X1.here hx rfl (hb hby d7_25) rfl rfl (l' := #[.val (.ref a), .val (.long (0 : Int64)), .second, .val (.ref u), .val (.int (1 : Int32)), .val (.int (0 : Int32)), .val (.ref ca0)]) rfl k) ?_
  refine Done.st (B := T1.setTop (mkF m 28 #[.val (.ref a), .val (.long (0 : Int64)), .second, .val (.ref u), .val (.int (1 : Int32)), .val (.int (0 : Int32)), .val (.ref ca0)] [(.long (0 : Int64))])) (fun _ k => XS.lloadN X1.here hx rfl (hb hby d7_27) rfl k) ?_
  refine Done.st (B := T1.setTop (mkF m 30 #[.val (.ref a), .val (.long (0 : Int64)), .second, .val (.ref u), .val (.int (1 : Int32)), .val (.int (0 : Int32)), .val (.ref ca0)] [(.ref ca0), (.long (0 : Int64))])) (fun _ k => XS.aload X1.here hx rfl (hb hby d7_28) rfl rfl k) ?_
  obtain ⟨kk4, hs4, vs4, dv4, FF4, -⟩ := id Y_ca0
  obtain ⟨cl4, Ar4, q4, S4, M4, -⟩ := id FF4
  refine Done.st (B := T1.setTop (mkF m 31 #[.val (.ref a), .val (.long (0 : Int64)), .second, .val (.ref u), .val (.int (1 : Int32)), .val (.int (0 : Int32)), .val (.ref ca0)] [(.int ln0), (.long (0 : Int64))])) (fun _ k => X1.arraylength hx (by rw [e1]; exact Ar4.1) (State.isArrayOf_alike hZ.alike Ar4.2.1) (g := (mkF m 30 #[.val (.ref a), .val (.long (0 : Int64)), .second, .val (.ref u), .val (.int (1 : Int32)), .val (.int (0 : Int32)), .val (.ref ca0)] [(.ref ca0), (.long (0 : Int64))])) rfl rfl (hb hby d7_30) _ (by rw [len_of S4 M4]; exact k)) ?_
  refine Done.st (B := T1.setTop (mkF m 32 #[.val (.ref a), .val (.long (0 : Int64)), .second, .val (.ref u), .val (.int (1 : Int32)), .val (.int (0 : Int32)), .val (.ref ca0)] [(.long (ln0.toInt64)), (.long (0 : Int64))])) (fun _ k => XS.i2l X1.here hx rfl (hb hby d7_31) rfl k) ?_
  refine Done.st (B := T1.setTop (mkF m 33 #[.val (.ref a), .val (.long (0 : Int64)), .second, .val (.ref u), .val (.int (1 : Int32)), .val (.int (0 : Int32)), .val (.ref ca0)] [(.long ((0 : Int64) + (ln0.toInt64)))])) (fun _ k => XS.ladd X1.here hx rfl (hb hby d7_32) rfl k) ?_
  refine Done.st (B := T1.setTop (mkF m 34 #[.val (.ref a), .val (.long ((0 : Int64) + (ln0.toInt64))), .second, .val (.ref u), .val (.int (1 : Int32)), .val (.int (0 : Int32)), .val (.ref ca0)] [])) (fun _ k => XS.lstoreN X1.here hx rfl (hb hby d7_33) rfl (l' := #[.val (.ref a), .val (.long ((0 : Int64) + (ln0.toInt64))), .second, .val (.ref u), .val (.int (1 : Int32)), .val (.int (0 : Int32)), .val (.ref ca0)]) rfl k) ?_
  refine Done.st (B := T1.setTop (mkF m 37 #[.val (.ref a), .val (.long ((0 : Int64) + (ln0.toInt64))), .second, .val (.ref u), .val (.int (1 : Int32)), .val (.int (1 : Int32)), .val (.ref ca0)] [])) (fun _ k => XS.iinc X1.here hx rfl (hb hby d7_34) rfl (l' := #[.val (.ref a), .val (.long ((0 : Int64) + (ln0.toInt64))), .second, .val (.ref u), .val (.int (1 : Int32)), .val (.int (1 : Int32)), .val (.ref ca0)]) rfl k) ?_
  refine Done.st (B := T1.setTop (mkF m 14 #[.val (.ref a), .val (.long ((0 : Int64) + (ln0.toInt64))), .second, .val (.ref u), .val (.int (1 : Int32)), .val (.int (1 : Int32)), .val (.ref ca0)] [])) (fun _ k => XS.goto X1.here hx rfl (pc0 := 37) (pc' := 14) rfl (hb hby d7_37) (by decide) (by decide) k) ?_
  refine Done.st (B := T1.setTop (mkF m 16 #[.val (.ref a), .val (.long ((0 : Int64) + (ln0.toInt64))), .second, .val (.ref u), .val (.int (1 : Int32)), .val (.int (1 : Int32)), .val (.ref ca0)] [(.int (1 : Int32))])) (fun _ k => XS.iload X1.here hx rfl (hb hby d7_14) rfl k) ?_
  refine Done.st (B := T1.setTop (mkF m 18 #[.val (.ref a), .val (.long ((0 : Int64) + (ln0.toInt64))), .second, .val (.ref u), .val (.int (1 : Int32)), .val (.int (1 : Int32)), .val (.ref ca0)] [(.int (1 : Int32)), (.int (1 : Int32))])) (fun _ k => XS.iload X1.here hx rfl (hb hby d7_16) rfl k) ?_
  refine Done.st (B := T1.setTop (mkF m 40 #[.val (.ref a), .val (.long ((0 : Int64) + (ln0.toInt64))), .second, .val (.ref u), .val (.int (1 : Int32)), .val (.int (1 : Int32)), .val (.ref ca0)] [])) (fun _ k => XS.icmpYes X1.here hx rfl (pc0 := 18) (pc' := 40) rfl (hb hby d7_18) rfl (flt (by decide : ¬ ((1 : Int32) < (1 : Int32)))).2.1 (by decide) (by decide) k) ?_
  refine Done.st (B := T1.setTop (mkF m 41 #[.val (.ref a), .val (.long ((0 : Int64) + (ln0.toInt64))), .second, .val (.ref u), .val (.int (1 : Int32)), .val (.int (1 : Int32)), .val (.ref ca0)] [(.long ((0 : Int64) + (ln0.toInt64)))])) (fun _ k => XS.lloadN X1.here hx rfl (hb hby d7_40) rfl k) ?_
  obtain ⟨fs, hr, hrun, hended, hW, hsame⟩ := X1.leave (v := some (.long ((0 : Int64) + (ln0.toInt64)))) (hlocks := hlk) (fun h => by rw [Bd.returns] at h; cases h)
  refine Done.fin (retJ X1 hx Bd.returns (hb hby d7_41) hr) hrun hended ⟨_, _, rfl, ?_, ⟨_, rfl⟩, hW, hsame.mono (by decide) (by decide)⟩
  show QrmIC_1 Z a u ku ca0 ln0 h0 n0 _ T1.heap _
  rw [e1]
  exact ⟨rfl, N0, rfl⟩
theorem ef_rmSI_2 (m : MethodId) (a : Addr) (li : Addr) : entryFrame m #[(.ref a), (.ref li)] 3 = mkF m 0 #[.val (.ref a), .val (.ref li), .unset] [] := by first | (simp [entryFrame, mkF, argsToLocals, Value.category]; done) | rfl
def QrmSI_2 (Z : State) (a : Addr) (li : Addr) (mc : Int32) (t : Addr) (kt : ClassId) (el0 : Addr) (el1 : Addr) (ln0 : Int32) (ln1 : Int32) (h0 : Heap) (n0 : Nat) (v : Option Value) (h : Heap) (L : List Loc) : Prop := ∃ (u : Addr) (ku : ClassId) (ca0 : Addr) (ca1 : Addr), v = none ∧ Fr n0 L ∧ Keep h0 h [a] ∧ h0.size ≤ u ∧ Exa Z h a "com/example/percurso/percurso/suite/Suite" ∧ Fld Z h a "com/example/percurso/percurso/suite/Suite" "tests" "[[I" (.ref u) ∧ Arv Z h u ku (.array .int) (2 : Int32) [(.ref ca0), (.ref ca1)] .null ∧ IA Z h ca0 ln0 ∧ IA Z h ca1 ln1
def PrmSI_2 (s : State) (Z : State) (a : Addr) (li : Addr) (mc : Int32) (t : Addr) (kt : ClassId) (el0 : Addr) (el1 : Addr) (ln0 : Int32) (ln1 : Int32) (h0 : Heap) (n0 : Nat) : State → Outcome → Prop := fun U' o => ∃ v L, o = .returned v ∧ QrmSI_2 Z a li mc t kt el0 el1 ln0 ln1 h0 n0 v U'.heap L ∧ FrameEnd s o U' L ({ frames := 3, cells := 3, slots := 16, locals := 42 } : Room).cells ({ frames := 3, cells := 3, slots := 16, locals := 42 } : Room).slots
set_option maxRecDepth 65536 in
set_option maxHeartbeats 40000000 in
theorem rmSI_2 (l : Launch) (Z : State) (a0 : Array Value) (hw : ∀ d ∈ tables_1, d.before a0 Z = true) (ws : List Jvm.Cond) (a : Addr) (li : Addr) (mc : Int32) (t : Addr) (kt : ClassId) (el0 : Addr) (el1 : Addr) (ln0 : Int32) (ln1 : Int32) (h0 : Heap) (n0 : Nat) (Z0 : n0 ≤ h0.size) (Fa : Fld Z h0 a "com/example/percurso/percurso/suite/Suite" "tests" "[[I" .null) (Es : Exa Z h0 a "com/example/percurso/percurso/suite/Suite") (gs : n0 ≤ a) (El : Exa Z h0 li "java/util/ArrayList") (Fm : Fld Z h0 li "java/util/AbstractList" "modCount" "I" (.int mc)) (Fe : Fld Z h0 li "java/util/ArrayList" "elementData" "[Ljava/lang/Object;" (.ref t)) (Fs : Fld Z h0 li "java/util/ArrayList" "size" "I" (.int (2 : Int32))) (V_t : Arv Z h0 t kt (.object "java/lang/Object") (10 : Int32) [(.ref el0), (.ref el1), .null, .null, .null, .null, .null, .null, .null, .null] .null) (Y_el0 : IA Z h0 el0 ln0) (h_ln0 : 0 ≤ ln0.toInt ∧ ln0.toInt ≤ 7) (Y_el1 : IA Z h0 el1 ln1) (h_ln1 : 0 ≤ ln1.toInt ∧ ln1.toInt ≤ 7) (nal : a ≠ li) (nat : a ≠ t) (na_el0 : a ≠ el0) (na_el1 : a ≠ el1) :
    MetFree l (⟨"com/example/percurso/percurso/suite/Suite", "<init>", "(Ljava/util/List;)V"⟩ : MethodName) (head1 (Jvm.Cond.code (⟨"com/example/percurso/percurso/suite/Suite", "<init>", "(Ljava/util/List;)V"⟩ : MethodName) prog_192_method_1_code 3 none :: ws) ({ frames := 3, cells := 3, slots := 16, locals := 42 } : Room)) (fun aa U => aa = #[(.ref a), (.ref li)] ∧ Z.Warmed39 U.vm ∧ U.heap = h0) (fun _ _ _ _ _ => True) (fun _ U o U' => ∃ v L, o = .returned v ∧ QrmSI_2 Z a li mc t kt el0 el1 ln0 ln1 h0 n0 v U'.heap L ∧ FrameEnd U o U' L ({ frames := 3, cells := 3, slots := 16, locals := 42 } : Room).cells ({ frames := 3, cells := 3, slots := 16, locals := 42 } : Room).slots) := by
  refine MetFree.of_bodySF (plainFor_of_name pn_5) hisR ?_
  intro p e s m args below meth c s₁ Bd hml0 hP hK
  obtain ⟨rfl, hZ, hh⟩ := hP
  have hx := Bd.exec
  have hlk : meth.locks = false := by first | exact BodyLoose.notSynchronized Bd | exact Body.notSynchronized Bd
  have hby := Bd.bytes
  have hml : c.maxLocals = 3 := hml0
  have hown : s.vm.findClass "com/example/percurso/percurso/suite/Suite" = some m.cls := findClass_of_methodNamed Bd.named
  have hnm := (name_of_methodNamed Bd.named Bd.method).1
  have X0 : Stand p l e ({ frames := 3, cells := 3, slots := 16, locals := 42 } : Room) s m #[(.ref a), (.ref li)] below meth c s₁ [] 0 0 := Stand.of_body Bd
  have e0 : s₁.heap = h0 := by rw [← hh, Bd.state]; rfl
  have N0 := Fr.nil n0
  show Done p e below (PrmSI_2 s Z a li mc t kt el0 el1 ln0 ln1 h0 n0) (s₁.setTop (entryFrame m #[(.ref a), (.ref li)] 3))
  refine Done.st (B := s₁.setTop (mkF m 0 #[.val (.ref a), .val (.ref li), .unset] [])) (fun _ k => castTop (ef_rmSI_2 m a li) k) ?_
  have X_el0 : Exa Z h0 el0 "[I" := by obtain ⟨_, _, _, _, _, z⟩ := Y_el0; exact z
  have X_el1 : Exa Z h0 el1 "[I" := by obtain ⟨_, _, _, _, _, z⟩ := Y_el1; exact z
  refine Done.st (B := s₁.setTop (mkF m 1 #[.val (.ref a), .val (.ref li), .unset] [(.ref a)])) (fun _ k => XS.aloadN X0.here hx rfl (hb hby d5_0) rfl rfl k) ?_
  obtain ⟨T1, X1, e1, st1⟩ := initO X0 hx hZ hown (hw _ (List.mem_of_getElem? (i := 33) rfl)) (hw _ (List.mem_of_getElem? (i := 20) rfl)) (hw _ (List.mem_of_getElem? (i := 21) rfl)) e0 (g := (mkF m 1 #[.val (.ref a), .val (.ref li), .unset] [(.ref a)])) rfl (by rw [hml]; rfl) rfl (hb hby d5_1) (by decide) (W := 0) (by show 2 * 0 + _ ≤ _; exact Nat.le_of_eq rfl) (by decide)
  refine Done.st (B := T1.setTop (mkF m 4 #[.val (.ref a), .val (.ref li), .unset] [])) (fun _ k => st1 _ k) ?_
  refine Done.st (B := T1.setTop (mkF m 5 #[.val (.ref a), .val (.ref li), .unset] [(.ref a)])) (fun _ k => XS.aloadN X1.here hx rfl (hb hby d5_4) rfl rfl k) ?_
  refine Done.st (B := T1.setTop (mkF m 6 #[.val (.ref a), .val (.ref li), .unset] [(.ref li), (.ref a)])) (fun _ k => XS.aloadN X1.here hx rfl (hb hby d5_5) rfl rfl k) ?_
  obtain ⟨cq2, kq2, q2a, q2b, q2c⟩ := isOf hZ e1 El
  obtain ⟨_, _, ⟨T2, L2, k2, n2⟩, -, X2, ⟨Lc2, hQ2, l2, y2, z2⟩, st2⟩ := X1.interfaceBack hx (xi := (⟨"java/util/List", "size", "()I"⟩ : MethodName)) (y := (⟨"java/util/ArrayList", "size", "()I"⟩ : MethodName)) hown (mvT hZ (hw _ (List.mem_of_getElem? (i := 34) rfl))) (mvT hZ (hw _ (List.mem_of_getElem? (i := 35) rfl))) (mvT hZ (hw _ (List.mem_of_getElem? (i := 36) rfl))) (mvT hZ (hw _ (List.mem_of_getElem? (i := 37) rfl))) (mvT hZ (hw _ (List.mem_of_getElem? (i := 38) rfl))) (mvT hZ (hw _ (List.mem_of_getElem? (i := 39) rfl))) (mvT hZ (hw _ (List.mem_of_getElem? (i := 40) rfl))) (mvT hZ (hw _ (List.mem_of_getElem? (i := 41) rfl))) (by decide) (backOf (W := 1) (rm6 l Z a0 hw [] li (2 : Int32) h0 n0 Z0 Fs) hZ (hw _ (List.mem_of_getElem? (i := 42) rfl)) (hw _ (List.mem_of_getElem? (i := 3) rfl)) (by decide) (by decide)) q2a q2b q2c (g := (mkF m 6 #[.val (.ref a), .val (.ref li), .unset] [(.ref li), (.ref a)])) rfl (by rw [hml]; rfl) (Steps.refl _) (argsL := []) (rest := [(.ref a)]) (lenOf pd_7 rfl) rfl (by show 2 * 0 + _ ≤ _; exact Nat.le_of_eq rfl) (hb hby d5_6) (fun _ _ => ⟨rfl, e1, (by decide : 0 + 0 ≤ _), (by decide : 0 + 0 ≤ _)⟩)
  dsimp only [Pt.U, Pt.locs, Pt.cells, Pt.slots] at X2 l2 y2 z2 st2 hQ2
  subst l2 y2 z2
  obtain ⟨rfl, N2q, e2⟩ := hQ2
  have N2 := Fr.app N0 N2q
  refine Done.st (B := T2.setTop (mkF m 11 #[.val (.ref a), .val (.ref li), .unset] [(.int (2 : Int32)), (.ref a)])) (fun _ k => st2.trans k) ?_
  obtain ⟨T3, h3, k3, X3, e3, E3, A3, Ex3, O3, st3⟩ := newRA X2 hx hZ hown (ty := .int) (C := "[I") rfl (hw _ (List.mem_of_getElem? (i := 45) rfl)) (hw _ (List.mem_of_getElem? (i := 46) rfl)) e2 (g := (mkF m 11 #[.val (.ref a), .val (.ref li), .unset] [(.int (2 : Int32)), (.ref a)])) rfl (hb hby d5_11) rfl (by decide) (cap := 2) (by decide) (by decide) (by decide) (by decide) (ad := "[[I") rfl
  obtain ⟨b3, g3⟩ : ∃ z, z = h0.size := ⟨_, rfl⟩
  rw [← g3] at A3 Ex3 st3
  have ne_li_b3 : li ≠ b3 := Nat.ne_of_lt (Nat.lt_of_lt_of_le El.lt (Nat.le_of_eq g3.symm))
  have ne_a_b3 : a ≠ b3 := Nat.ne_of_lt (Nat.lt_of_lt_of_le Fa.lt (Nat.le_of_eq g3.symm))
  have ne_t_b3 : t ≠ b3 := Nat.ne_of_lt (Nat.lt_of_lt_of_le V_t.lt (Nat.le_of_eq g3.symm))
  have ne_el0_b3 : el0 ≠ b3 := Nat.ne_of_lt (Nat.lt_of_lt_of_le Y_el0.lt (Nat.le_of_eq g3.symm))
  have ne_el1_b3 : el1 ≠ b3 := Nat.ne_of_lt (Nat.lt_of_lt_of_le Y_el1.lt (Nat.le_of_eq g3.symm))
  have ge_b3 : n0 ≤ b3 := Nat.le_trans Z0 (Nat.le_of_eq g3.symm)
  have sz_b3 : h0.size ≤ b3 := Nat.le_trans ((Keep.refl h0 [a])).1 (Nat.le_of_eq g3.symm)
  have Z3 : n0 ≤ h3.size := Nat.le_trans Z0 E3.1
  have V3 : Arv Z h3 b3 k3 (.array .int) (2 : Int32) [.null, .null] .null := (Arv.new A3 (by decide)).pad (pad_rep [] .null 2)
  have KK3 : Keep h0 h3 [a] := ((Keep.refl h0 [a])).ext E3
  refine Done.st (B := T3.setTop (mkF m 14 #[.val (.ref a), .val (.ref li), .unset] [(.ref b3), (.ref a)])) (fun _ k => st3 _ k) ?_
  have c4 := (Exa.ext E3 Es)
  have c5 := (Fld.ext E3 Fa)
  obtain ⟨T6, h6, X6, e6, W6, st6⟩ := putF X3 hx hZ hown (host := "") (Or.inl (hw _ (List.mem_of_getElem? (i := 47) rfl))) Via.refl e3 c5 c4 (Or.inr ⟨(hw _ (List.mem_of_getElem? (i := 48) rfl)), rfl, hnm⟩) (hw _ (List.mem_of_getElem? (i := 28) rfl)) (ty := (.array (.array .int))) (by decide) rfl rfl (g := (mkF m 14 #[.val (.ref a), .val (.ref li), .unset] [(.ref b3), (.ref a)])) rfl rfl (hb hby d5_14)
  have F6 := Fld.same W6 c5
  have N6 := Fr.snoc X6 N2 gs
  have Z6 : n0 ≤ h6.size := Nat.le_trans Z3 (Keep.of_wr W6).1
  have KK6 : Keep h0 h6 [a] := (KK3).wr W6 (Or.inl (List.mem_of_getElem? (i := 0) rfl))
  refine Done.st (B := T6.setTop (mkF m 17 #[.val (.ref a), .val (.ref li), .unset] [])) (fun _ k => st6 _ k) ?_
  refine Done.st (B := T6.setTop (mkF m 18 #[.val (.ref a), .val (.ref li), .unset] [(.int (0 : Int32))])) (fun _ k => XS.iconst X6.here hx rfl (hb hby d5_17) k) ?_
  refine Done.st (B := T6.setTop (mkF m 19 #[.val (.ref a), .val (.ref li), .val (.int (0 : Int32))] [])) (fun _ k => XS.istoreN X6.here hx rfl (hb hby d5_18) rfl (l' := #[.val (.ref a), .val (.ref li), .val (.int (0 : Int32))]) rfl k) ?_
  refine Done.st (B := T6.setTop (mkF m 20 #[.val (.ref a), .val (.ref li), .val (.int (0 : Int32))] [(.int (0 : Int32))])) (fun _ k => XS.iloadN X6.here hx rfl (hb hby d5_19) rfl k) ?_
  refine Done.st (B := T6.setTop (mkF m 21 #[.val (.ref a), .val (.ref li), .val (.int (0 : Int32))] [(.ref a), (.int (0 : Int32))])) (fun _ k => XS.aloadN X6.here hx rfl (hb hby d5_20) rfl rfl k) ?_
  obtain ⟨T7, X7, e7, st7⟩ := getF X6 hx hZ hown (host := "") (Or.inl (hw _ (List.mem_of_getElem? (i := 47) rfl))) Via.refl e6 F6 (g := (mkF m 21 #[.val (.ref a), .val (.ref li), .val (.int (0 : Int32))] [(.ref a), (.int (0 : Int32))])) rfl rfl (hb hby d5_21)
  refine Done.st (B := T7.setTop (mkF m 24 #[.val (.ref a), .val (.ref li), .val (.int (0 : Int32))] [(.ref b3), (.int (0 : Int32))])) (fun _ k => st7 _ k) ?_
  have c9 := (V3.other W6 (Ne.symm ne_a_b3))
  obtain ⟨cl8, Ar8, q8, S8, M8, -⟩ := id c9
  refine Done.st (B := T7.setTop (mkF m 25 #[.val (.ref a), .val (.ref li), .val (.int (0 : Int32))] [(.int (2 : Int32)), (.int (0 : Int32))])) (fun _ k => X7.arraylength hx (by rw [e7]; exact Ar8.1) (State.isArrayOf_alike hZ.alike Ar8.2.1) (g := (mkF m 24 #[.val (.ref a), .val (.ref li), .val (.int (0 : Int32))] [(.ref b3), (.int (0 : Int32))])) rfl rfl (hb hby d5_24) _ (by rw [len_of S8 M8]; exact k)) ?_
  refine Done.st (B := T7.setTop (mkF m 28 #[.val (.ref a), .val (.ref li), .val (.int (0 : Int32))] [])) (fun _ k => XS.icmpNo X7.here hx rfl (hb hby d5_25) rfl (tlt (by decide : (0 : Int32) < (2 : Int32))).2.1 k) ?_
  refine Done.st (B := T7.setTop (mkF m 29 #[.val (.ref a), .val (.ref li), .val (.int (0 : Int32))] [(.ref a)])) (fun _ k => XS.aloadN X7.here hx rfl (hb hby d5_28) rfl rfl k) ?_
  obtain ⟨T10, X10, e10, st10⟩ := getF X7 hx hZ hown (host := "") (Or.inl (hw _ (List.mem_of_getElem? (i := 47) rfl))) Via.refl e7 F6 (g := (mkF m 29 #[.val (.ref a), .val (.ref li), .val (.int (0 : Int32))] [(.ref a)])) rfl rfl (hb hby d5_29)
  refine Done.st (B := T10.setTop (mkF m 32 #[.val (.ref a), .val (.ref li), .val (.int (0 : Int32))] [(.ref b3)])) (fun _ k => st10 _ k) ?_
  refine Done.st (B := T10.setTop (mkF m 33 #[.val (.ref a), .val (.ref li), .val (.int (0 : Int32))] [(.int (0 : Int32)), (.ref b3)])) (fun _ k => XS.iloadN X10.here hx rfl (hb hby d5_32) rfl k) ?_
  refine Done.st (B := T10.setTop (mkF m 34 #[.val (.ref a), .val (.ref li), .val (.int (0 : Int32))] [(.ref li), (.int (0 : Int32)), (.ref b3)])) (fun _ k => XS.aloadN X10.here hx rfl (hb hby d5_33) rfl rfl k) ?_
  refine Done.st (B := T10.setTop (mkF m 35 #[.val (.ref a), .val (.ref li), .val (.int (0 : Int32))] [(.int (0 : Int32)), (.ref li), (.int (0 : Int32)), (.ref b3)])) (fun _ k => XS.iloadN X10.here hx rfl (hb hby d5_34) rfl k) ?_
  have c11 := (Fld.other W6 (Fld.ext E3 Fe) (Or.inl (Ne.symm nal)))
  have c12 := ((V_t.ext E3).other W6 (Ne.symm nat))
  have c13 := (Fld.other W6 (Fld.ext E3 Fs) (Or.inl (Ne.symm nal)))
  have c14 := (Exa.wr W6 (Exa.ext E3 El))
  obtain ⟨cq15, kq15, q15a, q15b, q15c⟩ := isOf hZ e10 c14
  obtain ⟨_, _, ⟨T15, L15, k15, n15⟩, -, X15, ⟨Lc15, hQ15, l15, y15, z15⟩, st15⟩ := X10.interfaceBack hx (xi := (⟨"java/util/List", "get", "(I)Ljava/lang/Object;"⟩ : MethodName)) (y := (⟨"java/util/ArrayList", "get", "(I)Ljava/lang/Object;"⟩ : MethodName)) hown (mvT hZ (hw _ (List.mem_of_getElem? (i := 83) rfl))) (mvT hZ (hw _ (List.mem_of_getElem? (i := 84) rfl))) (mvT hZ (hw _ (List.mem_of_getElem? (i := 85) rfl))) (mvT hZ (hw _ (List.mem_of_getElem? (i := 86) rfl))) (mvT hZ (hw _ (List.mem_of_getElem? (i := 87) rfl))) (mvT hZ (hw _ (List.mem_of_getElem? (i := 88) rfl))) (mvT hZ (hw _ (List.mem_of_getElem? (i := 89) rfl))) (mvT hZ (hw _ (List.mem_of_getElem? (i := 41) rfl))) (by decide) (backOf (W := 2) (rm13 l Z a0 hw [] li (0 : Int32) t kt [(.ref el0), (.ref el1), .null, .null, .null, .null, .null, .null, .null, .null] el0 (2 : Int32) h6 n0 Z6 c11 c12 ⟨by decide, by decide⟩ rfl c13 c14 ⟨by decide, by decide⟩) hZ (hw _ (List.mem_of_getElem? (i := 90) rfl)) (hw _ (List.mem_of_getElem? (i := 3) rfl)) (by decide) (by decide)) q15a q15b q15c (g := (mkF m 35 #[.val (.ref a), .val (.ref li), .val (.int (0 : Int32))] [(.int (0 : Int32)), (.ref li), (.int (0 : Int32)), (.ref b3)])) rfl (by rw [hml]; rfl) (Steps.refl _) (argsL := [(.int (0 : Int32))]) (rest := [(.int (0 : Int32)), (.ref b3)]) (lenOf pd_6 rfl) rfl (by show 2 * 0 + _ ≤ _; exact Nat.le_of_eq rfl) (hb hby d5_35) (fun _ _ => ⟨rfl, e10, (by decide : 1 + 0 ≤ _), (by decide : 2 + 0 ≤ _)⟩)
  dsimp only [Pt.U, Pt.locs, Pt.cells, Pt.slots] at X15 l15 y15 z15 st15 hQ15
  subst l15 y15 z15
  obtain ⟨rfl, N15q, e15⟩ := hQ15
  have N15 := Fr.app N6 N15q
  refine Done.st (B := T15.setTop (mkF m 40 #[.val (.ref a), .val (.ref li), .val (.int (0 : Int32))] [(.ref el0), (.int (0 : Int32)), (.ref b3)])) (fun _ k => st15.trans k) ?_
  have c17 := (Exa.wr W6 (Exa.ext E3 X_el0))
  obtain ⟨T16, X16, e16, st16⟩ := castY X15 hx hZ hown (hw _ (List.mem_of_getElem? (i := 45) rfl)) e15 (Ins.self c17) (g := (mkF m 40 #[.val (.ref a), .val (.ref li), .val (.int (0 : Int32))] [(.ref el0), (.int (0 : Int32)), (.ref b3)])) rfl rfl (hb hby d5_40)
  refine Done.st (B := T16.setTop (mkF m 43 #[.val (.ref a), .val (.ref li), .val (.int (0 : Int32))] [(.ref el0), (.int (0 : Int32)), (.ref b3)])) (fun _ k => st16 _ k) ?_
  have c19 := ((Y_el0.ext E3).other W6 (Ne.symm na_el0))
  obtain ⟨kk18, hs18, vs18, dv18, FF18, -⟩ := id c19
  obtain ⟨T18, h18, X18, e18, E18, A18, Ex18, st18⟩ := cloneH X16 hx hZ hown (hw _ (List.mem_of_getElem? (i := 105) rfl)) (hw _ (List.mem_of_getElem? (i := 106) rfl)) (hw _ (List.mem_of_getElem? (i := 110) rfl)) (hw _ (List.mem_of_getElem? (i := 108) rfl)) (hw _ (List.mem_of_getElem? (i := 109) rfl)) (hw _ (List.mem_of_getElem? (i := 111) rfl)) e16 FF18 c17 (g := (mkF m 43 #[.val (.ref a), .val (.ref li), .val (.int (0 : Int32))] [(.ref el0), (.int (0 : Int32)), (.ref b3)])) rfl (by rw [hml]; rfl) rfl (hb hby d5_43) (by decide) (W := 2) (by show 2 * 0 + _ ≤ _; exact Nat.le_of_eq rfl) (by decide) (cap := 7) (own_cap h_ln0) (by decide) (by decide)
  have c20 := ((Y_el1.ext E3).other W6 (Ne.symm na_el1))
  obtain ⟨b18, g18⟩ : ∃ z, z = h6.size := ⟨_, rfl⟩
  rw [← g18] at A18 Ex18 st18
  have ne_li_b18 : li ≠ b18 := Nat.ne_of_lt (Nat.lt_of_lt_of_le c14.lt (Nat.le_of_eq g18.symm))
  have ne_a_b18 : a ≠ b18 := Nat.ne_of_lt (Nat.lt_of_lt_of_le F6.lt (Nat.le_of_eq g18.symm))
  have ne_t_b18 : t ≠ b18 := Nat.ne_of_lt (Nat.lt_of_lt_of_le c12.lt (Nat.le_of_eq g18.symm))
  have ne_el0_b18 : el0 ≠ b18 := Nat.ne_of_lt (Nat.lt_of_lt_of_le c19.lt (Nat.le_of_eq g18.symm))
  have ne_el1_b18 : el1 ≠ b18 := Nat.ne_of_lt (Nat.lt_of_lt_of_le c20.lt (Nat.le_of_eq g18.symm))
  have ne_b3_b18 : b3 ≠ b18 := Nat.ne_of_lt (Nat.lt_of_lt_of_le c9.lt (Nat.le_of_eq g18.symm))
  have ge_b18 : n0 ≤ b18 := Nat.le_trans Z6 (Nat.le_of_eq g18.symm)
  have sz_b18 : h0.size ≤ b18 := Nat.le_trans (KK6).1 (Nat.le_of_eq g18.symm)
  have Z18 : n0 ≤ h18.size := Nat.le_trans Z6 E18.1
  have Y18 : IA Z h18 b18 ln0 := ⟨_, _, _, _, A18, Ex18⟩
  have KK18 : Keep h0 h18 [a] := (KK6).ext E18
  refine Done.st (B := T18.setTop (mkF m 46 #[.val (.ref a), .val (.ref li), .val (.int (0 : Int32))] [(.ref b18), (.int (0 : Int32)), (.ref b3)])) (fun _ k => st18 _ k) ?_
  obtain ⟨T21, X21, e21, st21⟩ := castY X18 hx hZ hown (hw _ (List.mem_of_getElem? (i := 45) rfl)) e18 (Ins.self Ex18) (g := (mkF m 46 #[.val (.ref a), .val (.ref li), .val (.int (0 : Int32))] [(.ref b18), (.int (0 : Int32)), (.ref b3)])) rfl rfl (hb hby d5_46)
  refine Done.st (B := T21.setTop (mkF m 49 #[.val (.ref a), .val (.ref li), .val (.int (0 : Int32))] [(.ref b18), (.int (0 : Int32)), (.ref b3)])) (fun _ k => st21 _ k) ?_
  have c23 := (c9.ext E18)
  obtain ⟨cl22, Ar22, q22, S22, M22, H22, G22⟩ := id c23
  have hin22 : ¬ ((0 : Int32) < 0 ∨ cl22.slots.size ≤ ((0 : Int32)).toNatClampNeg) := inb_of S22 ⟨by decide, by decide⟩
  obtain ⟨T22, h22, X22, e22, W22, st22⟩ := stR X21 hx hZ e21 Ar22 (j := (0 : Int32)) hin22 rfl (Sto.ofVA Ar22 q22 O3 (Ins.self Ex18)) (g := (mkF m 49 #[.val (.ref a), .val (.ref li), .val (.int (0 : Int32))] [(.ref b18), (.int (0 : Int32)), (.ref b3)])) rfl rfl (hb hby d5_49)
  have V22 : Arv Z h22 b3 k3 (.array .int) (2 : Int32) [(.ref b18), .null] .null := Arv.set Ar22 q22 S22 M22 H22 G22 rfl W22 0 rfl (Nat.le_of_ble_eq_true rfl)
  have N22 := Fr.snoc X22 N15 ge_b3
  have Z22 : n0 ≤ h22.size := Nat.le_trans Z18 (Keep.of_wr W22).1
  have KK22 : Keep h0 h22 [a] := (KK18).wr W22 (Or.inr sz_b3)
  refine Done.st (B := T22.setTop (mkF m 50 #[.val (.ref a), .val (.ref li), .val (.int (0 : Int32))] [])) (fun _ k => st22 _ k) ?_
  refine Done.st (B := T22.setTop (mkF m 53 #[.val (.ref a), .val (.ref li), .val (.int (1 : Int32))] [])) (fun _ k => XS.iinc X22.here hx rfl (hb hby d5_50) rfl (l' := #[.val (.ref a), .val (.ref li), .val (.int (1 : Int32))]) rfl k) ?_
  refine Done.st (B := T22.setTop (mkF m 19 #[.val (.ref a), .val (.ref li), .val (.int (1 : Int32))] [])) (fun _ k => XS.goto X22.here hx rfl (pc0 := 53) (pc' := 19) rfl (hb hby d5_53) (by decide) (by decide) k) ?_
  refine Done.st (B := T22.setTop (mkF m 20 #[.val (.ref a), .val (.ref li), .val (.int (1 : Int32))] [(.int (1 : Int32))])) (fun _ k => XS.iloadN X22.here hx rfl (hb hby d5_19) rfl k) ?_
  refine Done.st (B := T22.setTop (mkF m 21 #[.val (.ref a), .val (.ref li), .val (.int (1 : Int32))] [(.ref a), (.int (1 : Int32))])) (fun _ k => XS.aloadN X22.here hx rfl (hb hby d5_20) rfl rfl k) ?_
  have c25 := (Fld.other W22 (Fld.ext E18 F6) (Or.inl ne_a_b3))
  obtain ⟨T24, X24, e24, st24⟩ := getF X22 hx hZ hown (host := "") (Or.inl (hw _ (List.mem_of_getElem? (i := 47) rfl))) Via.refl e22 c25 (g := (mkF m 21 #[.val (.ref a), .val (.ref li), .val (.int (1 : Int32))] [(.ref a), (.int (1 : Int32))])) rfl rfl (hb hby d5_21)
  refine Done.st (B := T24.setTop (mkF m 24 #[.val (.ref a), .val (.ref li), .val (.int (1 : Int32))] [(.ref b3), (.int (1 : Int32))])) (fun _ k => st24 _ k) ?_
  obtain ⟨cl26, Ar26, q26, S26, M26, -⟩ := id V22
  refine Done.st (B := T24.setTop (mkF m 25 #[.val (.ref a), .val (.ref li), .val (.int (1 : Int32))] [(.int (2 : Int32)), (.int (1 : Int32))])) (fun _ k => X24.arraylength hx (by rw [e24]; exact Ar26.1) (State.isArrayOf_alike hZ.alike Ar26.2.1) (g := (mkF m 24 #[.val (.ref a), .val (.ref li), .val (.int (1 : Int32))] [(.ref b3), (.int (1 : Int32))])) rfl rfl (hb hby d5_24) _ (by rw [len_of S26 M26]; exact k)) ?_
  refine Done.st (B := T24.setTop (mkF m 28 #[.val (.ref a), .val (.ref li), .val (.int (1 : Int32))] [])) (fun _ k => XS.icmpNo X24.here hx rfl (hb hby d5_25) rfl (tlt (by decide : (1 : Int32) < (2 : Int32))).2.1 k) ?_
  refine Done.st (B := T24.setTop (mkF m 29 #[.val (.ref a), .val (.ref li), .val (.int (1 : Int32))] [(.ref a)])) (fun _ k => XS.aloadN X24.here hx rfl (hb hby d5_28) rfl rfl k) ?_
  obtain ⟨T27, X27, e27, st27⟩ := getF X24 hx hZ hown (host := "") (Or.inl (hw _ (List.mem_of_getElem? (i := 47) rfl))) Via.refl e24 c25 (g := (mkF m 29 #[.val (.ref a), .val (.ref li), .val (.int (1 : Int32))] [(.ref a)])) rfl rfl (hb hby d5_29)
  refine Done.st (B := T27.setTop (mkF m 32 #[.val (.ref a), .val (.ref li), .val (.int (1 : Int32))] [(.ref b3)])) (fun _ k => st27 _ k) ?_
  refine Done.st (B := T27.setTop (mkF m 33 #[.val (.ref a), .val (.ref li), .val (.int (1 : Int32))] [(.int (1 : Int32)), (.ref b3)])) (fun _ k => XS.iloadN X27.here hx rfl (hb hby d5_32) rfl k) ?_
  refine Done.st (B := T27.setTop (mkF m 34 #[.val (.ref a), .val (.ref li), .val (.int (1 : Int32))] [(.ref li), (.int (1 : Int32)), (.ref b3)])) (fun _ k => XS.aloadN X27.here hx rfl (hb hby d5_33) rfl rfl k) ?_
  refine Done.st (B := T27.setTop (mkF m 35 #[.val (.ref a), .val (.ref li), .val (.int (1 : Int32))] [(.int (1 : Int32)), (.ref li), (.int (1 : Int32)), (.ref b3)])) (fun _ k => XS.iloadN X27.here hx rfl (hb hby d5_34) rfl k) ?_
  have c28 := (Fld.other W22 (Fld.ext E18 c11) (Or.inl ne_li_b3))
  have c29 := ((c12.ext E18).other W22 ne_t_b3)
  have c30 := (Fld.other W22 (Fld.ext E18 c13) (Or.inl ne_li_b3))
  have c31 := (Exa.wr W22 (Exa.ext E18 c14))
  obtain ⟨cq32, kq32, q32a, q32b, q32c⟩ := isOf hZ e27 c31
  obtain ⟨_, _, ⟨T32, L32, k32, n32⟩, -, X32, ⟨Lc32, hQ32, l32, y32, z32⟩, st32⟩ := X27.interfaceBack hx (xi := (⟨"java/util/List", "get", "(I)Ljava/lang/Object;"⟩ : MethodName)) (y := (⟨"java/util/ArrayList", "get", "(I)Ljava/lang/Object;"⟩ : MethodName)) hown (mvT hZ (hw _ (List.mem_of_getElem? (i := 83) rfl))) (mvT hZ (hw _ (List.mem_of_getElem? (i := 84) rfl))) (mvT hZ (hw _ (List.mem_of_getElem? (i := 85) rfl))) (mvT hZ (hw _ (List.mem_of_getElem? (i := 86) rfl))) (mvT hZ (hw _ (List.mem_of_getElem? (i := 87) rfl))) (mvT hZ (hw _ (List.mem_of_getElem? (i := 88) rfl))) (mvT hZ (hw _ (List.mem_of_getElem? (i := 89) rfl))) (mvT hZ (hw _ (List.mem_of_getElem? (i := 41) rfl))) (by decide) (backOf (W := 2) (rm13 l Z a0 hw [] li (1 : Int32) t kt [(.ref el0), (.ref el1), .null, .null, .null, .null, .null, .null, .null, .null] el1 (2 : Int32) h22 n0 Z22 c28 c29 ⟨by decide, by decide⟩ rfl c30 c31 ⟨by decide, by decide⟩) hZ (hw _ (List.mem_of_getElem? (i := 90) rfl)) (hw _ (List.mem_of_getElem? (i := 3) rfl)) (by decide) (by decide)) q32a q32b q32c (g := (mkF m 35 #[.val (.ref a), .val (.ref li), .val (.int (1 : Int32))] [(.int (1 : Int32)), (.ref li), (.int (1 : Int32)), (.ref b3)])) rfl (by rw [hml]; rfl) (Steps.refl _) (argsL := [(.int (1 : Int32))]) (rest := [(.int (1 : Int32)), (.ref b3)]) (lenOf pd_6 rfl) rfl (by show 2 * 0 + _ ≤ _; exact Nat.le_of_eq rfl) (hb hby d5_35) (fun _ _ => ⟨rfl, e27, (by decide : 2 + 0 ≤ _), (by decide : 9 + 0 ≤ _)⟩)
  dsimp only [Pt.U, Pt.locs, Pt.cells, Pt.slots] at X32 l32 y32 z32 st32 hQ32
  subst l32 y32 z32
  obtain ⟨rfl, N32q, e32⟩ := hQ32
  have N32 := Fr.app N22 N32q
  refine Done.st (B := T32.setTop (mkF m 40 #[.val (.ref a), .val (.ref li), .val (.int (1 : Int32))] [(.ref el1), (.int (1 : Int32)), (.ref b3)])) (fun _ k => st32.trans k) ?_
  have c34 := (Exa.wr W22 (Exa.ext E18 (Exa.wr W6 (Exa.ext E3 X_el1))))
  obtain ⟨T33, X33, e33, st33⟩ := castY X32 hx hZ hown (hw _ (List.mem_of_getElem? (i := 45) rfl)) e32 (Ins.self c34) (g := (mkF m 40 #[.val (.ref a), .val (.ref li), .val (.int (1 : Int32))] [(.ref el1), (.int (1 : Int32)), (.ref b3)])) rfl rfl (hb hby d5_40)
  refine Done.st (B := T33.setTop (mkF m 43 #[.val (.ref a), .val (.ref li), .val (.int (1 : Int32))] [(.ref el1), (.int (1 : Int32)), (.ref b3)])) (fun _ k => st33 _ k) ?_
  have c36 := ((c20.ext E18).other W22 ne_el1_b3)
  obtain ⟨kk35, hs35, vs35, dv35, FF35, -⟩ := id c36
  obtain ⟨T35, h35, X35, e35, E35, A35, Ex35, st35⟩ := cloneH X33 hx hZ hown (hw _ (List.mem_of_getElem? (i := 105) rfl)) (hw _ (List.mem_of_getElem? (i := 106) rfl)) (hw _ (List.mem_of_getElem? (i := 110) rfl)) (hw _ (List.mem_of_getElem? (i := 108) rfl)) (hw _ (List.mem_of_getElem? (i := 109) rfl)) (hw _ (List.mem_of_getElem? (i := 111) rfl)) e33 FF35 c34 (g := (mkF m 43 #[.val (.ref a), .val (.ref li), .val (.int (1 : Int32))] [(.ref el1), (.int (1 : Int32)), (.ref b3)])) rfl (by rw [hml]; rfl) rfl (hb hby d5_43) (by decide) (W := 2) (by show 2 * 0 + _ ≤ _; exact Nat.le_of_eq rfl) (by decide) (cap := 7) (own_cap h_ln1) (by decide) (by decide)
  have c37 := ((c19.ext E18).other W22 ne_el0_b3)
  have c38 := (Y18.other W22 (Ne.symm ne_b3_b18))
  obtain ⟨b35, g35⟩ : ∃ z, z = h22.size := ⟨_, rfl⟩
  rw [← g35] at A35 Ex35 st35
  have ne_li_b35 : li ≠ b35 := Nat.ne_of_lt (Nat.lt_of_lt_of_le c31.lt (Nat.le_of_eq g35.symm))
  have ne_a_b35 : a ≠ b35 := Nat.ne_of_lt (Nat.lt_of_lt_of_le c25.lt (Nat.le_of_eq g35.symm))
  have ne_t_b35 : t ≠ b35 := Nat.ne_of_lt (Nat.lt_of_lt_of_le c29.lt (Nat.le_of_eq g35.symm))
  have ne_el0_b35 : el0 ≠ b35 := Nat.ne_of_lt (Nat.lt_of_lt_of_le c37.lt (Nat.le_of_eq g35.symm))
  have ne_el1_b35 : el1 ≠ b35 := Nat.ne_of_lt (Nat.lt_of_lt_of_le c36.lt (Nat.le_of_eq g35.symm))
  have ne_b3_b35 : b3 ≠ b35 := Nat.ne_of_lt (Nat.lt_of_lt_of_le V22.lt (Nat.le_of_eq g35.symm))
  have ne_b18_b35 : b18 ≠ b35 := Nat.ne_of_lt (Nat.lt_of_lt_of_le c38.lt (Nat.le_of_eq g35.symm))
  have ge_b35 : n0 ≤ b35 := Nat.le_trans Z22 (Nat.le_of_eq g35.symm)
  have sz_b35 : h0.size ≤ b35 := Nat.le_trans (KK22).1 (Nat.le_of_eq g35.symm)
  have Z35 : n0 ≤ h35.size := Nat.le_trans Z22 E35.1
  have Y35 : IA Z h35 b35 ln1 := ⟨_, _, _, _, A35, Ex35⟩
  have KK35 : Keep h0 h35 [a] := (KK22).ext E35
  refine Done.st (B := T35.setTop (mkF m 46 #[.val (.ref a), .val (.ref li), .val (.int (1 : Int32))] [(.ref b35), (.int (1 : Int32)), (.ref b3)])) (fun _ k => st35 _ k) ?_
  obtain ⟨T39, X39, e39, st39⟩ := castY X35 hx hZ hown (hw _ (List.mem_of_getElem? (i := 45) rfl)) e35 (Ins.self Ex35) (g := (mkF m 46 #[.val (.ref a), .val (.ref li), .val (.int (1 : Int32))] [(.ref b35), (.int (1 : Int32)), (.ref b3)])) rfl rfl (hb hby d5_46)
  refine Done.st (B := T39.setTop (mkF m 49 #[.val (.ref a), .val (.ref li), .val (.int (1 : Int32))] [(.ref b35), (.int (1 : Int32)), (.ref b3)])) (fun _ k => st39 _ k) ?_
  have c41 := (V22.ext E35)
  obtain ⟨cl40, Ar40, q40, S40, M40, H40, G40⟩ := id c41
  have hin40 : ¬ ((1 : Int32) < 0 ∨ cl40.slots.size ≤ ((1 : Int32)).toNatClampNeg) := inb_of S40 ⟨by decide, by decide⟩
  obtain ⟨T40, h40, X40, e40, W40, st40⟩ := stR X39 hx hZ e39 Ar40 (j := (1 : Int32)) hin40 rfl (Sto.ofVA Ar40 q40 O3 (Ins.self Ex35)) (g := (mkF m 49 #[.val (.ref a), .val (.ref li), .val (.int (1 : Int32))] [(.ref b35), (.int (1 : Int32)), (.ref b3)])) rfl rfl (hb hby d5_49)
  have V40 : Arv Z h40 b3 k3 (.array .int) (2 : Int32) [(.ref b18), (.ref b35)] .null := Arv.set Ar40 q40 S40 M40 H40 G40 rfl W40 1 rfl (Nat.le_of_ble_eq_true rfl)
  have N40 := Fr.snoc X40 N32 ge_b3
  have Z40 : n0 ≤ h40.size := Nat.le_trans Z35 (Keep.of_wr W40).1
  have KK40 : Keep h0 h40 [a] := (KK35).wr W40 (Or.inr sz_b3)
  refine Done.st (B := T40.setTop (mkF m 50 #[.val (.ref a), .val (.ref li), .val (.int (1 : Int32))] [])) (fun _ k => st40 _ k) ?_
  refine Done.st (B := T40.setTop (mkF m 53 #[.val (.ref a), .val (.ref li), .val (.int (2 : Int32))] [])) (fun _ k => XS.iinc X40.here hx rfl (hb hby d5_50) rfl (l' := #[.val (.ref a), .val (.ref li), .val (.int (2 : Int32))]) rfl k) ?_
  refine Done.st (B := T40.setTop (mkF m 19 #[.val (.ref a), .val (.ref li), .val (.int (2 : Int32))] [])) (fun _ k => XS.goto X40.here hx rfl (pc0 := 53) (pc' := 19) rfl (hb hby d5_53) (by decide) (by decide) k) ?_
  refine Done.st (B := T40.setTop (mkF m 20 #[.val (.ref a), .val (.ref li), .val (.int (2 : Int32))] [(.int (2 : Int32))])) (fun _ k => XS.iloadN X40.here hx rfl (hb hby d5_19) rfl k) ?_
  refine Done.st (B := T40.setTop (mkF m 21 #[.val (.ref a), .val (.ref li), .val (.int (2 : Int32))] [(.ref a), (.int (2 : Int32))])) (fun _ k => XS.aloadN X40.here hx rfl (hb hby d5_20) rfl rfl k) ?_
  have c43 := (Fld.other W40 (Fld.ext E35 c25) (Or.inl ne_a_b3))
  obtain ⟨T42, X42, e42, st42⟩ := getF X40 hx hZ hown (host := "") (Or.inl (hw _ (List.mem_of_getElem? (i := 47) rfl))) Via.refl e40 c43 (g := (mkF m 21 #[.val (.ref a), .val (.ref li), .val (.int (2 : Int32))] [(.ref a), (.int (2 : Int32))])) rfl rfl (hb hby d5_21)
  refine Done.st (B := T42.setTop (mkF m 24 #[.val (.ref a), .val (.ref li), .val (.int (2 : Int32))] [(.ref b3), (.int (2 : Int32))])) (fun _ k => st42 _ k) ?_
  obtain ⟨cl44, Ar44, q44, S44, M44, -⟩ := id V40
  refine Done.st (B := T42.setTop (mkF m 25 #[.val (.ref a), .val (.ref li), .val (.int (2 : Int32))] [(.int (2 : Int32)), (.int (2 : Int32))])) (fun _ k => X42.arraylength hx (by rw [e42]; exact Ar44.1) (State.isArrayOf_alike hZ.alike Ar44.2.1) (g := (mkF m 24 #[.val (.ref a), .val (.ref li), .val (.int (2 : Int32))] [(.ref b3), (.int (2 : Int32))])) rfl rfl (hb hby d5_24) _ (by rw [len_of S44 M44]; exact k)) ?_
  refine Done.st (B := T42.setTop (mkF m 56 #[.val (.ref a), .val (.ref li), .val (.int (2 : Int32))] [])) (fun _ k => XS.icmpYes X42.here hx rfl (pc0 := 25) (pc' := 56) rfl (hb hby d5_25) rfl (flt (by decide : ¬ ((2 : Int32) < (2 : Int32)))).2.1 (by decide) (by decide) k) ?_
  obtain ⟨fs, hr, hrun, hended, hW, hsame⟩ := X42.leave (v := none) (hlocks := hlk) (fun _ => rfl)
  have c46 := (Exa.wr W40 (Exa.ext E35 (Exa.wr W22 (Exa.ext E18 (Exa.wr W6 c4)))))
  have c47 := ((c38.ext E35).other W40 (Ne.symm ne_b3_b18))
  have c48 := (Y35.other W40 (Ne.symm ne_b3_b35))
  refine Done.fin (X42.returnOut hx Bd.returns (hb hby d5_56) hr) hrun hended ⟨_, _, rfl, ?_, ⟨_, rfl⟩, hW, hsame.mono (by decide) (by decide)⟩
  show QrmSI_2 Z a li mc t kt el0 el1 ln0 ln1 h0 n0 _ T42.heap _
  rw [e42]
  exact ⟨b3, _, b18, b35, rfl, N40, KK40, sz_b3, c46, c43, V40, c47, c48⟩
theorem ef_rmIC_2 (m : MethodId) (a : Addr) : entryFrame m #[(.ref a)] 7 = mkF m 0 #[.val (.ref a), .unset, .unset, .unset, .unset, .unset, .unset] [] := by first | (simp [entryFrame, mkF, argsToLocals, Value.category]; done) | rfl
def QrmIC_2 (Z : State) (a : Addr) (u : Addr) (ku : ClassId) (ca0 : Addr) (ca1 : Addr) (ln0 : Int32) (ln1 : Int32) (h0 : Heap) (n0 : Nat) (v : Option Value) (h : Heap) (L : List Loc) : Prop := v = some (.long (((0 : Int64) + (ln0.toInt64)) + (ln1.toInt64))) ∧ Fr n0 L ∧ h = h0
def PrmIC_2 (s : State) (Z : State) (a : Addr) (u : Addr) (ku : ClassId) (ca0 : Addr) (ca1 : Addr) (ln0 : Int32) (ln1 : Int32) (h0 : Heap) (n0 : Nat) : State → Outcome → Prop := fun U' o => ∃ v L, o = .returned v ∧ QrmIC_2 Z a u ku ca0 ca1 ln0 ln1 h0 n0 v U'.heap L ∧ FrameEnd s o U' L ({ frames := 0, cells := 0, slots := 0, locals := 0 } : Room).cells ({ frames := 0, cells := 0, slots := 0, locals := 0 } : Room).slots
set_option maxRecDepth 65536 in
set_option maxHeartbeats 40000000 in
theorem rmIC_2 (l : Launch) (Z : State) (a0 : Array Value) (hw : ∀ d ∈ tables_1, d.before a0 Z = true) (ws : List Jvm.Cond) (a : Addr) (u : Addr) (ku : ClassId) (ca0 : Addr) (ca1 : Addr) (ln0 : Int32) (ln1 : Int32) (h0 : Heap) (n0 : Nat) (Z0 : n0 ≤ h0.size) (Fa : Fld Z h0 a "com/example/percurso/percurso/suite/Suite" "tests" "[[I" (.ref u)) (Vu : Arv Z h0 u ku (.array .int) (2 : Int32) [(.ref ca0), (.ref ca1)] .null) (Y_ca0 : IA Z h0 ca0 ln0) (Y_ca1 : IA Z h0 ca1 ln1) :
    MetFree l (⟨"com/example/percurso/percurso/suite/Suite", "inputCount", "()J"⟩ : MethodName) (head1 (Jvm.Cond.code (⟨"com/example/percurso/percurso/suite/Suite", "inputCount", "()J"⟩ : MethodName) prog_192_method_7_code 7 (some .long) :: ws) ({ frames := 0, cells := 0, slots := 0, locals := 0 } : Room)) (fun aa U => aa = #[(.ref a)] ∧ Z.Warmed39 U.vm ∧ U.heap = h0) (fun _ _ _ _ _ => True) (fun _ U o U' => ∃ v L, o = .returned v ∧ QrmIC_2 Z a u ku ca0 ca1 ln0 ln1 h0 n0 v U'.heap L ∧ FrameEnd U o U' L ({ frames := 0, cells := 0, slots := 0, locals := 0 } : Room).cells ({ frames := 0, cells := 0, slots := 0, locals := 0 } : Room).slots) := by
  refine MetFree.of_bodySF (plainFor_of_name pn_5) hisR ?_
  intro p e s m args below meth c s₁ Bd hml0 hP hK
  obtain ⟨rfl, hZ, hh⟩ := hP
  have hx := Bd.exec
  have hlk : meth.locks = false := by first | exact BodyLoose.notSynchronized Bd | exact Body.notSynchronized Bd
  have hby := Bd.bytes
  have hml : c.maxLocals = 7 := hml0
  have hown : s.vm.findClass "com/example/percurso/percurso/suite/Suite" = some m.cls := findClass_of_methodNamed Bd.named
  have hnm := (name_of_methodNamed Bd.named Bd.method).1
  have X0 : Stand p l e ({ frames := 0, cells := 0, slots := 0, locals := 0 } : Room) s m #[(.ref a)] below meth c s₁ [] 0 0 := Stand.of_body Bd
  have e0 : s₁.heap = h0 := by rw [← hh, Bd.state]; rfl
  have N0 := Fr.nil n0
  show Done p e below (PrmIC_2 s Z a u ku ca0 ca1 ln0 ln1 h0 n0) (s₁.setTop (entryFrame m #[(.ref a)] 7))
  refine Done.st (B := s₁.setTop (mkF m 0 #[.val (.ref a), .unset, .unset, .unset, .unset, .unset, .unset] [])) (fun _ k => castTop (ef_rmIC_2 m a) k) ?_
  refine Done.st (B := s₁.setTop (mkF m 1 #[.val (.ref a), .unset, .unset, .unset, .unset, .unset, .unset] [(.long (0 : Int64))])) (fun _ k => XS.lconst X0.here hx rfl (hb hby d7_0) k) ?_
  refine Done.st (B := s₁.setTop (mkF m 2 #[.val (.ref a), .val (.long (0 : Int64)), .second, .unset, .unset, .unset, .unset] [])) (fun _ k => XS.lstoreN X0.here hx rfl (hb hby d7_1) rfl (l' := #[.val (.ref a), .val (.long (0 : Int64)), .second, .unset, .unset, .unset, .unset]) rfl k) ?_
  refine Done.st (B := s₁.setTop (mkF m 3 #[.val (.ref a), .val (.long (0 : Int64)), .second, .unset, .unset, .unset, .unset] [(.ref a)])) (fun _ k => XS.aloadN X0.here hx rfl (hb hby d7_2) rfl rfl k) ?_
  obtain ⟨T1, X1, e1, st1⟩ := getF X0 hx hZ hown (host := "") (Or.inl (hw _ (List.mem_of_getElem? (i := 47) rfl))) Via.refl e0 Fa (g := (mkF m 3 #[.val (.ref a), .val (.long (0 : Int64)), .second, .unset, .unset, .unset, .unset] [(.ref a)])) rfl rfl (hb hby d7_3)
  refine Done.st (B := T1.setTop (mkF m 6 #[.val (.ref a), .val (.long (0 : Int64)), .second, .unset, .unset, .unset, .unset] [(.ref u)])) (fun _ k => st1 _ k) ?_
  refine Done.st (B := T1.setTop (mkF m 7 #[.val (.ref a), .val (.long (0 : Int64)), .second, .val (.ref u), .unset, .unset, .unset] [])) (fun _ k => XS.astoreN X1.here hx rfl (hb hby d7_6) rfl rfl (l' := #[.val (.ref a), .val (.long (0 : Int64)), .second, .val (.ref u), .unset, .unset, .unset]) rfl k) ?_
  refine Done.st (B := T1.setTop (mkF m 8 #[.val (.ref a), .val (.long (0 : Int64)), .second, .val (.ref u), .unset, .unset, .unset] [(.ref u)])) (fun _ k => XS.aloadN X1.here hx rfl (hb hby d7_7) rfl rfl k) ?_
  obtain ⟨cl2, Ar2, q2, S2, M2, -⟩ := id Vu
  refine Done.st (B := T1.setTop (mkF m 9 #[.val (.ref a), .val (.long (0 : Int64)), .second, .val (.ref u), .unset, .unset, .unset] [(.int (2 : Int32))])) (fun _ k => X1.arraylength hx (by rw [e1]; exact Ar2.1) (State.isArrayOf_alike hZ.alike Ar2.2.1) (g := (mkF m 8 #[.val (.ref a), .val (.long (0 : Int64)), .second, .val (.ref u), .unset, .unset, .unset] [(.ref u)])) rfl rfl (hb hby d7_8) _ (by rw [len_of S2 M2]; exact k)) ?_
  refine Done.st (B := T1.setTop (mkF m 11 #[.val (.ref a), .val (.long (0 : Int64)), .second, .val (.ref u), .val (.int (2 : Int32)), .unset, .unset] [])) (fun _ k => XS.istore X1.here hx rfl (hb hby d7_9) rfl (l' := #[.val (.ref a), .val (.long (0 : Int64)), .second, .val (.ref u), .val (.int (2 : Int32)), .unset, .unset]) rfl k) ?_
  refine Done.st (B := T1.setTop (mkF m 12 #[.val (.ref a), .val (.long (0 : Int64)), .second, .val (.ref u), .val (.int (2 : Int32)), .unset, .unset] [(.int (0 : Int32))])) (fun _ k => XS.iconst X1.here hx rfl (hb hby d7_11) k) ?_
  refine Done.st (B := T1.setTop (mkF m 14 #[.val (.ref a), .val (.long (0 : Int64)), .second, .val (.ref u), .val (.int (2 : Int32)), .val (.int (0 : Int32)), .unset] [])) (fun _ k => XS.istore X1.here hx rfl (hb hby d7_12) rfl (l' := #[.val (.ref a), .val (.long (0 : Int64)), .second, .val (.ref u), .val (.int (2 : Int32)), .val (.int (0 : Int32)), .unset]) rfl k) ?_
  refine Done.st (B := T1.setTop (mkF m 16 #[.val (.ref a), .val (.long (0 : Int64)), .second, .val (.ref u), .val (.int (2 : Int32)), .val (.int (0 : Int32)), .unset] [(.int (0 : Int32))])) (fun _ k => XS.iload X1.here hx rfl (hb hby d7_14) rfl k) ?_
  refine Done.st (B := T1.setTop (mkF m 18 #[.val (.ref a), .val (.long (0 : Int64)), .second, .val (.ref u), .val (.int (2 : Int32)), .val (.int (0 : Int32)), .unset] [(.int (2 : Int32)), (.int (0 : Int32))])) (fun _ k => XS.iload X1.here hx rfl (hb hby d7_16) rfl k) ?_
  refine Done.st (B := T1.setTop (mkF m 21 #[.val (.ref a), .val (.long (0 : Int64)), .second, .val (.ref u), .val (.int (2 : Int32)), .val (.int (0 : Int32)), .unset] [])) (fun _ k => XS.icmpNo X1.here hx rfl (hb hby d7_18) rfl (tlt (by decide : (0 : Int32) < (2 : Int32))).2.1 k) ?_
  refine Done.st (B := T1.setTop (mkF m 22 #[.val (.ref a), .val (.long (0 : Int64)), .second, .val (.ref u), .val (.int (2 : Int32)), .val (.int (0 : Int32)), .unset] [(.ref u)])) (fun _ k => XS.aloadN X1.here hx rfl (hb hby d7_21) rfl rfl k) ?_
  refine Done.st (B := T1.setTop (mkF m 24 #[.val (.ref a), .val (.long (0 : Int64)), .second, .val (.ref u), .val (.int (2 : Int32)), .val (.int (0 : Int32)), .unset] [(.int (0 : Int32)), (.ref u)])) (fun _ k => XS.iload X1.here hx rfl (hb hby d7_22) rfl k) ?_
  obtain ⟨cl3, Ar3, q3, S3, M3, H3, G3⟩ := id Vu
  have hin3 : ¬ ((0 : Int32) < 0 ∨ cl3.slots.size ≤ ((0 : Int32)).toNatClampNeg) := inb_of S3 ⟨by decide, by decide⟩
  have hat3 : cl3.slots[((0 : Int32)).toNatClampNeg]? = some (.ref ca0) := Has.at H3 hin3 rfl
  refine Done.st (B := T1.setTop (mkF m 25 #[.val (.ref a), .val (.long (0 : Int64)), .second, .val (.ref u), .val (.int (2 : Int32)), .val (.int (0 : Int32)), .unset] [(.ref ca0)])) (fun _ k => X1.aaload hx (j := (0 : Int32)) (v := (.ref ca0)) (by rw [e1]; exact Ar3.1) (State.isArrayOf_alike hZ.alike Ar3.2.1) rfl Ar3.2.2 hin3 hat3 (g := (mkF m 24 #[.val (.ref a), .val (.long (0 : Int64)), .second, .val (.ref u), .val (.int (2 : Int32)), .val (.int (0 : Int32)), .unset] [(.int (0 : Int32)), (.ref u)])) rfl rfl (hb hby d7_24) _ k) ?_
  refine Done.st (B := T1.setTop (mkF m 27 #[.val (.ref a), .val (.long (0 : Int64)), .second, .val (.ref u), .val (.int (2 : Int32)), .val (.int (0 : Int32)), .val (.ref ca0)] [])) (fun _ k => XS.astore X1.here hx rfl (hb hby d7_25) rfl rfl (l' := #[.val (.ref a), .val (.long (0 : Int64)), .second, .val (.ref u), .val (.int (2 : Int32)), .val (.int (0 : Int32)), .val (.ref ca0)]) rfl k) ?_
  refine Done.st (B := T1.setTop (mkF m 28 #[.val (.ref a), .val (.long (0 : Int64)), .second, .val (.ref u), .val (.int (2 : Int32)), .val (.int (0 : Int32)), .val (.ref ca0)] [(.long (0 : Int64))])) (fun _ k => XS.lloadN X1.here hx rfl (hb hby d7_27) rfl k) ?_
  refine Done.st (B := T1.setTop (mkF m 30 #[.val (.ref a), .val (.long (0 : Int64)), .second, .val (.ref u), .val (.int (2 : Int32)), .val (.int (0 : Int32)), .val (.ref ca0)] [(.ref ca0), (.long (0 : Int64))])) (fun _ k => XS.aload X1.here hx rfl (hb hby d7_28) rfl rfl k) ?_
  obtain ⟨kk4, hs4, vs4, dv4, FF4, -⟩ := id Y_ca0
  obtain ⟨cl4, Ar4, q4, S4, M4, -⟩ := id FF4
  refine Done.st (B := T1.setTop (mkF m 31 #[.val (.ref a), .val (.long (0 : Int64)), .second, .val (.ref u), .val (.int (2 : Int32)), .val (.int (0 : Int32)), .val (.ref ca0)] [(.int ln0), (.long (0 : Int64))])) (fun _ k => X1.arraylength hx (by rw [e1]; exact Ar4.1) (State.isArrayOf_alike hZ.alike Ar4.2.1) (g := (mkF m 30 #[.val (.ref a), .val (.long (0 : Int64)), .second, .val (.ref u), .val (.int (2 : Int32)), .val (.int (0 : Int32)), .val (.ref ca0)] [(.ref ca0), (.long (0 : Int64))])) rfl rfl (hb hby d7_30) _ (by rw [len_of S4 M4]; exact k)) ?_
  refine Done.st (B := T1.setTop (mkF m 32 #[.val (.ref a), .val (.long (0 : Int64)), .second, .val (.ref u), .val (.int (2 : Int32)), .val (.int (0 : Int32)), .val (.ref ca0)] [(.long (ln0.toInt64)), (.long (0 : Int64))])) (fun _ k => XS.i2l X1.here hx rfl (hb hby d7_31) rfl k) ?_
  refine Done.st (B := T1.setTop (mkF m 33 #[.val (.ref a), .val (.long (0 : Int64)), .second, .val (.ref u), .val (.int (2 : Int32)), .val (.int (0 : Int32)), .val (.ref ca0)] [(.long ((0 : Int64) + (ln0.toInt64)))])) (fun _ k => XS.ladd X1.here hx rfl (hb hby d7_32) rfl k) ?_
  refine Done.st (B := T1.setTop (mkF m 34 #[.val (.ref a), .val (.long ((0 : Int64) + (ln0.toInt64))), .second, .val (.ref u), .val (.int (2 : Int32)), .val (.int (0 : Int32)), .val (.ref ca0)] [])) (fun _ k => XS.lstoreN X1.here hx rfl (hb hby d7_33) rfl (l' := #[.val (.ref a), .val (.long ((0 : Int64) + (ln0.toInt64))), .second, .val (.ref u), .val (.int (2 : Int32)), .val (.int (0 : Int32)), .val (.ref ca0)]) rfl k) ?_
  refine Done.st (B := T1.setTop (mkF m 37 #[.val (.ref a), .val (.long ((0 : Int64) + (ln0.toInt64))), .second, .val (.ref u), .val (.int (2 : Int32)), .val (.int (1 : Int32)), .val (.ref ca0)] [])) (fun _ k => XS.iinc X1.here hx rfl (hb hby d7_34) rfl (l' := #[.val (.ref a), .val (.long ((0 : Int64) + (ln0.toInt64))), .second, .val (.ref u), .val (.int (2 : Int32)), .val (.int (1 : Int32)), .val (.ref ca0)]) rfl k) ?_
  refine Done.st (B := T1.setTop (mkF m 14 #[.val (.ref a), .val (.long ((0 : Int64) + (ln0.toInt64))), .second, .val (.ref u), .val (.int (2 : Int32)), .val (.int (1 : Int32)), .val (.ref ca0)] [])) (fun _ k => XS.goto X1.here hx rfl (pc0 := 37) (pc' := 14) rfl (hb hby d7_37) (by decide) (by decide) k) ?_
  refine Done.st (B := T1.setTop (mkF m 16 #[.val (.ref a), .val (.long ((0 : Int64) + (ln0.toInt64))), .second, .val (.ref u), .val (.int (2 : Int32)), .val (.int (1 : Int32)), .val (.ref ca0)] [(.int (1 : Int32))])) (fun _ k => XS.iload X1.here hx rfl (hb hby d7_14) rfl k) ?_
  refine Done.st (B := T1.setTop (mkF m 18 #[.val (.ref a), .val (.long ((0 : Int64) + (ln0.toInt64))), .second, .val (.ref u), .val (.int (2 : Int32)), .val (.int (1 : Int32)), .val (.ref ca0)] [(.int (2 : Int32)), (.int (1 : Int32))])) (fun _ k => XS.iload X1.here hx rfl (hb hby d7_16) rfl k) ?_
  refine Done.st (B := T1.setTop (mkF m 21 #[.val (.ref a), .val (.long ((0 : Int64) + (ln0.toInt64))), .second, .val (.ref u), .val (.int (2 : Int32)), .val (.int (1 : Int32)), .val (.ref ca0)] [])) (fun _ k => XS.icmpNo X1.here hx rfl (hb hby d7_18) rfl (tlt (by decide : (1 : Int32) < (2 : Int32))).2.1 k) ?_
  refine Done.st (B := T1.setTop (mkF m 22 #[.val (.ref a), .val (.long ((0 : Int64) + (ln0.toInt64))), .second, .val (.ref u), .val (.int (2 : Int32)), .val (.int (1 : Int32)), .val (.ref ca0)] [(.ref u)])) (fun _ k => XS.aloadN X1.here hx rfl (hb hby d7_21) rfl rfl k) ?_
  refine Done.st (B := T1.setTop (mkF m 24 #[.val (.ref a), .val (.long ((0 : Int64) + (ln0.toInt64))), .second, .val (.ref u), .val (.int (2 : Int32)), .val (.int (1 : Int32)), .val (.ref ca0)] [(.int (1 : Int32)), (.ref u)])) (fun _ k => XS.iload X1.here hx rfl (hb hby d7_22) rfl k) ?_
  obtain ⟨cl5, Ar5, q5, S5, M5, H5, G5⟩ := id Vu
  have hin5 : ¬ ((1 : Int32) < 0 ∨ cl5.slots.size ≤ ((1 : Int32)).toNatClampNeg) := inb_of S5 ⟨by decide, by decide⟩
  have hat5 : cl5.slots[((1 : Int32)).toNatClampNeg]? = some (.ref ca1) := Has.at H5 hin5 rfl
  refine Done.st (B := T1.setTop (mkF m 25 #[.val (.ref a), .val (.long ((0 : Int64) + (ln0.toInt64))), .second, .val (.ref u), .val (.int (2 : Int32)), .val (.int (1 : Int32)), .val (.ref ca0)] [(.ref ca1)])) (fun _ k => X1.aaload hx (j := (1 : Int32)) (v := (.ref ca1)) (by rw [e1]; exact Ar5.1) (State.isArrayOf_alike hZ.alike Ar5.2.1) rfl Ar5.2.2 hin5 hat5 (g := (mkF m 24 #[.val (.ref a), .val (.long ((0 : Int64) + (ln0.toInt64))), .second, .val (.ref u), .val (.int (2 : Int32)), .val (.int (1 : Int32)), .val (.ref ca0)] [(.int (1 : Int32)), (.ref u)])) rfl rfl (hb hby d7_24) _ k) ?_
  refine Done.st (B := T1.setTop (mkF m 27 #[.val (.ref a), .val (.long ((0 : Int64) + (ln0.toInt64))), .second, .val (.ref u), .val (.int (2 : Int32)), .val (.int (1 : Int32)), .val (.ref ca1)] [])) (fun _ k => XS.astore X1.here hx rfl (hb hby d7_25) rfl rfl (l' := #[.val (.ref a), .val (.long ((0 : Int64) + (ln0.toInt64))), .second, .val (.ref u), .val (.int (2 : Int32)), .val (.int (1 : Int32)), .val (.ref ca1)]) rfl k) ?_
  refine Done.st (B := T1.setTop (mkF m 28 #[.val (.ref a), .val (.long ((0 : Int64) + (ln0.toInt64))), .second, .val (.ref u), .val (.int (2 : Int32)), .val (.int (1 : Int32)), .val (.ref ca1)] [(.long ((0 : Int64) + (ln0.toInt64)))])) (fun _ k => XS.lloadN X1.here hx rfl (hb hby d7_27) rfl k) ?_
  refine Done.st (B := T1.setTop (mkF m 30 #[.val (.ref a), .val (.long ((0 : Int64) + (ln0.toInt64))), .second, .val (.ref u), .val (.int (2 : Int32)), .val (.int (1 : Int32)), .val (.ref ca1)] [(.ref ca1), (.long ((0 : Int64) + (ln0.toInt64)))])) (fun _ k => XS.aload X1.here hx rfl (hb hby d7_28) rfl rfl k) ?_
  obtain ⟨kk6, hs6, vs6, dv6, FF6, -⟩ := id Y_ca1
  obtain ⟨cl6, Ar6, q6, S6, M6, -⟩ := id FF6
  refine Done.st (B := T1.setTop (mkF m 31 #[.val (.ref a), .val (.long ((0 : Int64) + (ln0.toInt64))), .second, .val (.ref u), .val (.int (2 : Int32)), .val (.int (1 : Int32)), .val (.ref ca1)] [(.int ln1), (.long ((0 : Int64) + (ln0.toInt64)))])) (fun _ k => X1.arraylength hx (by rw [e1]; exact Ar6.1) (State.isArrayOf_alike hZ.alike Ar6.2.1) (g := (mkF m 30 #[.val (.ref a), .val (.long ((0 : Int64) + (ln0.toInt64))), .second, .val (.ref u), .val (.int (2 : Int32)), .val (.int (1 : Int32)), .val (.ref ca1)] [(.ref ca1), (.long ((0 : Int64) + (ln0.toInt64)))])) rfl rfl (hb hby d7_30) _ (by rw [len_of S6 M6]; exact k)) ?_
  refine Done.st (B := T1.setTop (mkF m 32 #[.val (.ref a), .val (.long ((0 : Int64) + (ln0.toInt64))), .second, .val (.ref u), .val (.int (2 : Int32)), .val (.int (1 : Int32)), .val (.ref ca1)] [(.long (ln1.toInt64)), (.long ((0 : Int64) + (ln0.toInt64)))])) (fun _ k => XS.i2l X1.here hx rfl (hb hby d7_31) rfl k) ?_
  refine Done.st (B := T1.setTop (mkF m 33 #[.val (.ref a), .val (.long ((0 : Int64) + (ln0.toInt64))), .second, .val (.ref u), .val (.int (2 : Int32)), .val (.int (1 : Int32)), .val (.ref ca1)] [(.long (((0 : Int64) + (ln0.toInt64)) + (ln1.toInt64)))])) (fun _ k => XS.ladd X1.here hx rfl (hb hby d7_32) rfl k) ?_
  refine Done.st (B := T1.setTop (mkF m 34 #[.val (.ref a), .val (.long (((0 : Int64) + (ln0.toInt64)) + (ln1.toInt64))), .second, .val (.ref u), .val (.int (2 : Int32)), .val (.int (1 : Int32)), .val (.ref ca1)] [])) (fun _ k => XS.lstoreN X1.here hx rfl (hb hby d7_33) rfl (l' := #[.val (.ref a), .val (.long (((0 : Int64) + (ln0.toInt64)) + (ln1.toInt64))), .second, .val (.ref u), .val (.int (2 : Int32)), .val (.int (1 : Int32)), .val (.ref ca1)]) rfl k) ?_
  refine Done.st (B := T1.setTop (mkF m 37 #[.val (.ref a), .val (.long (((0 : Int64) + (ln0.toInt64)) + (ln1.toInt64))), .second, .val (.ref u), .val (.int (2 : Int32)), .val (.int (2 : Int32)), .val (.ref ca1)] [])) (fun _ k => XS.iinc X1.here hx rfl (hb hby d7_34) rfl (l' := #[.val (.ref a), .val (.long (((0 : Int64) + (ln0.toInt64)) + (ln1.toInt64))), .second, .val (.ref u), .val (.int (2 : Int32)), .val (.int (2 : Int32)), .val (.ref ca1)]) rfl k) ?_
  refine Done.st (B := T1.setTop (mkF m 14 #[.val (.ref a), .val (.long (((0 : Int64) + (ln0.toInt64)) + (ln1.toInt64))), .second, .val (.ref u), .val (.int (2 : Int32)), .val (.int (2 : Int32)), .val (.ref ca1)] [])) (fun _ k => XS.goto X1.here hx rfl (pc0 := 37) (pc' := 14) rfl (hb hby d7_37) (by decide) (by decide) k) ?_
  refine Done.st (B := T1.setTop (mkF m 16 #[.val (.ref a), .val (.long (((0 : Int64) + (ln0.toInt64)) + (ln1.toInt64))), .second, .val (.ref u), .val (.int (2 : Int32)), .val (.int (2 : Int32)), .val (.ref ca1)] [(.int (2 : Int32))])) (fun _ k => XS.iload X1.here hx rfl (hb hby d7_14) rfl k) ?_
  refine Done.st (B := T1.setTop (mkF m 18 #[.val (.ref a), .val (.long (((0 : Int64) + (ln0.toInt64)) + (ln1.toInt64))), .second, .val (.ref u), .val (.int (2 : Int32)), .val (.int (2 : Int32)), .val (.ref ca1)] [(.int (2 : Int32)), (.int (2 : Int32))])) (fun _ k => XS.iload X1.here hx rfl (hb hby d7_16) rfl k) ?_
  refine Done.st (B := T1.setTop (mkF m 40 #[.val (.ref a), .val (.long (((0 : Int64) + (ln0.toInt64)) + (ln1.toInt64))), .second, .val (.ref u), .val (.int (2 : Int32)), .val (.int (2 : Int32)), .val (.ref ca1)] [])) (fun _ k => XS.icmpYes X1.here hx rfl (pc0 := 18) (pc' := 40) rfl (hb hby d7_18) rfl (flt (by decide : ¬ ((2 : Int32) < (2 : Int32)))).2.1 (by decide) (by decide) k) ?_
  refine Done.st (B := T1.setTop (mkF m 41 #[.val (.ref a), .val (.long (((0 : Int64) + (ln0.toInt64)) + (ln1.toInt64))), .second, .val (.ref u), .val (.int (2 : Int32)), .val (.int (2 : Int32)), .val (.ref ca1)] [(.long (((0 : Int64) + (ln0.toInt64)) + (ln1.toInt64)))])) (fun _ k => XS.lloadN X1.here hx rfl (hb hby d7_40) rfl k) ?_
  obtain ⟨fs, hr, hrun, hended, hW, hsame⟩ := X1.leave (v := some (.long (((0 : Int64) + (ln0.toInt64)) + (ln1.toInt64)))) (hlocks := hlk) (fun h => by rw [Bd.returns] at h; cases h)
  refine Done.fin (retJ X1 hx Bd.returns (hb hby d7_41) hr) hrun hended ⟨_, _, rfl, ?_, ⟨_, rfl⟩, hW, hsame.mono (by decide) (by decide)⟩
  show QrmIC_2 Z a u ku ca0 ca1 ln0 ln1 h0 n0 _ T1.heap _
  rw [e1]
  exact ⟨rfl, N0, rfl⟩
theorem ef_rmSI_3 (m : MethodId) (a : Addr) (li : Addr) : entryFrame m #[(.ref a), (.ref li)] 3 = mkF m 0 #[.val (.ref a), .val (.ref li), .unset] [] := by first | (simp [entryFrame, mkF, argsToLocals, Value.category]; done) | rfl
def QrmSI_3 (Z : State) (a : Addr) (li : Addr) (mc : Int32) (t : Addr) (kt : ClassId) (el0 : Addr) (el1 : Addr) (el2 : Addr) (ln0 : Int32) (ln1 : Int32) (ln2 : Int32) (h0 : Heap) (n0 : Nat) (v : Option Value) (h : Heap) (L : List Loc) : Prop := ∃ (u : Addr) (ku : ClassId) (ca0 : Addr) (ca1 : Addr) (ca2 : Addr), v = none ∧ Fr n0 L ∧ Keep h0 h [a] ∧ h0.size ≤ u ∧ Exa Z h a "com/example/percurso/percurso/suite/Suite" ∧ Fld Z h a "com/example/percurso/percurso/suite/Suite" "tests" "[[I" (.ref u) ∧ Arv Z h u ku (.array .int) (3 : Int32) [(.ref ca0), (.ref ca1), (.ref ca2)] .null ∧ IA Z h ca0 ln0 ∧ IA Z h ca1 ln1 ∧ IA Z h ca2 ln2
def PrmSI_3 (s : State) (Z : State) (a : Addr) (li : Addr) (mc : Int32) (t : Addr) (kt : ClassId) (el0 : Addr) (el1 : Addr) (el2 : Addr) (ln0 : Int32) (ln1 : Int32) (ln2 : Int32) (h0 : Heap) (n0 : Nat) : State → Outcome → Prop := fun U' o => ∃ v L, o = .returned v ∧ QrmSI_3 Z a li mc t kt el0 el1 el2 ln0 ln1 ln2 h0 n0 v U'.heap L ∧ FrameEnd s o U' L ({ frames := 3, cells := 4, slots := 24, locals := 42 } : Room).cells ({ frames := 3, cells := 4, slots := 24, locals := 42 } : Room).slots
set_option maxRecDepth 65536 in
set_option maxHeartbeats 40000000 in
theorem rmSI_3 (l : Launch) (Z : State) (a0 : Array Value) (hw : ∀ d ∈ tables_1, d.before a0 Z = true) (ws : List Jvm.Cond) (a : Addr) (li : Addr) (mc : Int32) (t : Addr) (kt : ClassId) (el0 : Addr) (el1 : Addr) (el2 : Addr) (ln0 : Int32) (ln1 : Int32) (ln2 : Int32) (h0 : Heap) (n0 : Nat) (Z0 : n0 ≤ h0.size) (Fa : Fld Z h0 a "com/example/percurso/percurso/suite/Suite" "tests" "[[I" .null) (Es : Exa Z h0 a "com/example/percurso/percurso/suite/Suite") (gs : n0 ≤ a) (El : Exa Z h0 li "java/util/ArrayList") (Fm : Fld Z h0 li "java/util/AbstractList" "modCount" "I" (.int mc)) (Fe : Fld Z h0 li "java/util/ArrayList" "elementData" "[Ljava/lang/Object;" (.ref t)) (Fs : Fld Z h0 li "java/util/ArrayList" "size" "I" (.int (3 : Int32))) (V_t : Arv Z h0 t kt (.object "java/lang/Object") (10 : Int32) [(.ref el0), (.ref el1), (.ref el2), .null, .null, .null, .null, .null, .null, .null] .null) (Y_el0 : IA Z h0 el0 ln0) (h_ln0 : 0 ≤ ln0.toInt ∧ ln0.toInt ≤ 7) (Y_el1 : IA Z h0 el1 ln1) (h_ln1 : 0 ≤ ln1.toInt ∧ ln1.toInt ≤ 7) (Y_el2 : IA Z h0 el2 ln2) (h_ln2 : 0 ≤ ln2.toInt ∧ ln2.toInt ≤ 7) (nal : a ≠ li) (nat : a ≠ t) (na_el0 : a ≠ el0) (na_el1 : a ≠ el1) (na_el2 : a ≠ el2) :
    MetFree l (⟨"com/example/percurso/percurso/suite/Suite", "<init>", "(Ljava/util/List;)V"⟩ : MethodName) (head1 (Jvm.Cond.code (⟨"com/example/percurso/percurso/suite/Suite", "<init>", "(Ljava/util/List;)V"⟩ : MethodName) prog_192_method_1_code 3 none :: ws) ({ frames := 3, cells := 4, slots := 24, locals := 42 } : Room)) (fun aa U => aa = #[(.ref a), (.ref li)] ∧ Z.Warmed39 U.vm ∧ U.heap = h0) (fun _ _ _ _ _ => True) (fun _ U o U' => ∃ v L, o = .returned v ∧ QrmSI_3 Z a li mc t kt el0 el1 el2 ln0 ln1 ln2 h0 n0 v U'.heap L ∧ FrameEnd U o U' L ({ frames := 3, cells := 4, slots := 24, locals := 42 } : Room).cells ({ frames := 3, cells := 4, slots := 24, locals := 42 } : Room).slots) := by
  refine MetFree.of_bodySF (plainFor_of_name pn_5) hisR ?_
  intro p e s m args below meth c s₁ Bd hml0 hP hK
  obtain ⟨rfl, hZ, hh⟩ := hP
  have hx := Bd.exec
  have hlk : meth.locks = false := by first | exact BodyLoose.notSynchronized Bd | exact Body.notSynchronized Bd
  have hby := Bd.bytes
  have hml : c.maxLocals = 3 := hml0
  have hown : s.vm.findClass "com/example/percurso/percurso/suite/Suite" = some m.cls := findClass_of_methodNamed Bd.named
  have hnm := (name_of_methodNamed Bd.named Bd.method).1
  have X0 : Stand p l e ({ frames := 3, cells := 4, slots := 24, locals := 42 } : Room) s m #[(.ref a), (.ref li)] below meth c s₁ [] 0 0 := Stand.of_body Bd
  have e0 : s₁.heap = h0 := by rw [← hh, Bd.state]; rfl
  have N0 := Fr.nil n0
  show Done p e below (PrmSI_3 s Z a li mc t kt el0 el1 el2 ln0 ln1 ln2 h0 n0) (s₁.setTop (entryFrame m #[(.ref a), (.ref li)] 3))
  refine Done.st (B := s₁.setTop (mkF m 0 #[.val (.ref a), .val (.ref li), .unset] [])) (fun _ k => castTop (ef_rmSI_3 m a li) k) ?_
  have X_el0 : Exa Z h0 el0 "[I" := by obtain ⟨_, _, _, _, _, z⟩ := Y_el0; exact z
  have X_el1 : Exa Z h0 el1 "[I" := by obtain ⟨_, _, _, _, _, z⟩ := Y_el1; exact z
  have X_el2 : Exa Z h0 el2 "[I" := by obtain ⟨_, _, _, _, _, z⟩ := Y_el2; exact z
  refine Done.st (B := s₁.setTop (mkF m 1 #[.val (.ref a), .val (.ref li), .unset] [(.ref a)])) (fun _ k => XS.aloadN X0.here hx rfl (hb hby d5_0) rfl rfl k) ?_
  obtain ⟨T1, X1, e1, st1⟩ := initO X0 hx hZ hown (hw _ (List.mem_of_getElem? (i := 33) rfl)) (hw _ (List.mem_of_getElem? (i := 20) rfl)) (hw _ (List.mem_of_getElem? (i := 21) rfl)) e0 (g := (mkF m 1 #[.val (.ref a), .val (.ref li), .unset] [(.ref a)])) rfl (by rw [hml]; rfl) rfl (hb hby d5_1) (by decide) (W := 0) (by show 2 * 0 + _ ≤ _; exact Nat.le_of_eq rfl) (by decide)
  refine Done.st (B := T1.setTop (mkF m 4 #[.val (.ref a), .val (.ref li), .unset] [])) (fun _ k => st1 _ k) ?_
  refine Done.st (B := T1.setTop (mkF m 5 #[.val (.ref a), .val (.ref li), .unset] [(.ref a)])) (fun _ k => XS.aloadN X1.here hx rfl (hb hby d5_4) rfl rfl k) ?_
  refine Done.st (B := T1.setTop (mkF m 6 #[.val (.ref a), .val (.ref li), .unset] [(.ref li), (.ref a)])) (fun _ k => XS.aloadN X1.here hx rfl (hb hby d5_5) rfl rfl k) ?_
  obtain ⟨cq2, kq2, q2a, q2b, q2c⟩ := isOf hZ e1 El
  obtain ⟨_, _, ⟨T2, L2, k2, n2⟩, -, X2, ⟨Lc2, hQ2, l2, y2, z2⟩, st2⟩ := X1.interfaceBack hx (xi := (⟨"java/util/List", "size", "()I"⟩ : MethodName)) (y := (⟨"java/util/ArrayList", "size", "()I"⟩ : MethodName)) hown (mvT hZ (hw _ (List.mem_of_getElem? (i := 34) rfl))) (mvT hZ (hw _ (List.mem_of_getElem? (i := 35) rfl))) (mvT hZ (hw _ (List.mem_of_getElem? (i := 36) rfl))) (mvT hZ (hw _ (List.mem_of_getElem? (i := 37) rfl))) (mvT hZ (hw _ (List.mem_of_getElem? (i := 38) rfl))) (mvT hZ (hw _ (List.mem_of_getElem? (i := 39) rfl))) (mvT hZ (hw _ (List.mem_of_getElem? (i := 40) rfl))) (mvT hZ (hw _ (List.mem_of_getElem? (i := 41) rfl))) (by decide) (backOf (W := 1) (rm6 l Z a0 hw [] li (3 : Int32) h0 n0 Z0 Fs) hZ (hw _ (List.mem_of_getElem? (i := 42) rfl)) (hw _ (List.mem_of_getElem? (i := 3) rfl)) (by decide) (by decide)) q2a q2b q2c (g := (mkF m 6 #[.val (.ref a), .val (.ref li), .unset] [(.ref li), (.ref a)])) rfl (by rw [hml]; rfl) (Steps.refl _) (argsL := []) (rest := [(.ref a)]) (lenOf pd_7 rfl) rfl (by show 2 * 0 + _ ≤ _; exact Nat.le_of_eq rfl) (hb hby d5_6) (fun _ _ => ⟨rfl, e1, (by decide : 0 + 0 ≤ _), (by decide : 0 + 0 ≤ _)⟩)
  dsimp only [Pt.U, Pt.locs, Pt.cells, Pt.slots] at X2 l2 y2 z2 st2 hQ2
  subst l2 y2 z2
  obtain ⟨rfl, N2q, e2⟩ := hQ2
  have N2 := Fr.app N0 N2q
  refine Done.st (B := T2.setTop (mkF m 11 #[.val (.ref a), .val (.ref li), .unset] [(.int (3 : Int32)), (.ref a)])) (fun _ k => st2.trans k) ?_
  obtain ⟨T3, h3, k3, X3, e3, E3, A3, Ex3, O3, st3⟩ := newRA X2 hx hZ hown (ty := .int) (C := "[I") rfl (hw _ (List.mem_of_getElem? (i := 45) rfl)) (hw _ (List.mem_of_getElem? (i := 46) rfl)) e2 (g := (mkF m 11 #[.val (.ref a), .val (.ref li), .unset] [(.int (3 : Int32)), (.ref a)])) rfl (hb hby d5_11) rfl (by decide) (cap := 3) (by decide) (by decide) (by decide) (by decide) (ad := "[[I") rfl
  obtain ⟨b3, g3⟩ : ∃ z, z = h0.size := ⟨_, rfl⟩
  rw [← g3] at A3 Ex3 st3
  have ne_li_b3 : li ≠ b3 := Nat.ne_of_lt (Nat.lt_of_lt_of_le El.lt (Nat.le_of_eq g3.symm))
  have ne_a_b3 : a ≠ b3 := Nat.ne_of_lt (Nat.lt_of_lt_of_le Fa.lt (Nat.le_of_eq g3.symm))
  have ne_t_b3 : t ≠ b3 := Nat.ne_of_lt (Nat.lt_of_lt_of_le V_t.lt (Nat.le_of_eq g3.symm))
  have ne_el0_b3 : el0 ≠ b3 := Nat.ne_of_lt (Nat.lt_of_lt_of_le Y_el0.lt (Nat.le_of_eq g3.symm))
  have ne_el1_b3 : el1 ≠ b3 := Nat.ne_of_lt (Nat.lt_of_lt_of_le Y_el1.lt (Nat.le_of_eq g3.symm))
  have ne_el2_b3 : el2 ≠ b3 := Nat.ne_of_lt (Nat.lt_of_lt_of_le Y_el2.lt (Nat.le_of_eq g3.symm))
  have ge_b3 : n0 ≤ b3 := Nat.le_trans Z0 (Nat.le_of_eq g3.symm)
  have sz_b3 : h0.size ≤ b3 := Nat.le_trans ((Keep.refl h0 [a])).1 (Nat.le_of_eq g3.symm)
  have Z3 : n0 ≤ h3.size := Nat.le_trans Z0 E3.1
  have V3 : Arv Z h3 b3 k3 (.array .int) (3 : Int32) [.null, .null, .null] .null := (Arv.new A3 (by decide)).pad (pad_rep [] .null 3)
  have KK3 : Keep h0 h3 [a] := ((Keep.refl h0 [a])).ext E3
  refine Done.st (B := T3.setTop (mkF m 14 #[.val (.ref a), .val (.ref li), .unset] [(.ref b3), (.ref a)])) (fun _ k => st3 _ k) ?_
  have c4 := (Exa.ext E3 Es)
  have c5 := (Fld.ext E3 Fa)
  obtain ⟨T6, h6, X6, e6, W6, st6⟩ := putF X3 hx hZ hown (host := "") (Or.inl (hw _ (List.mem_of_getElem? (i := 47) rfl))) Via.refl e3 c5 c4 (Or.inr ⟨(hw _ (List.mem_of_getElem? (i := 48) rfl)), rfl, hnm⟩) (hw _ (List.mem_of_getElem? (i := 28) rfl)) (ty := (.array (.array .int))) (by decide) rfl rfl (g := (mkF m 14 #[.val (.ref a), .val (.ref li), .unset] [(.ref b3), (.ref a)])) rfl rfl (hb hby d5_14)
  have F6 := Fld.same W6 c5
  have N6 := Fr.snoc X6 N2 gs
  have Z6 : n0 ≤ h6.size := Nat.le_trans Z3 (Keep.of_wr W6).1
  have KK6 : Keep h0 h6 [a] := (KK3).wr W6 (Or.inl (List.mem_of_getElem? (i := 0) rfl))
  refine Done.st (B := T6.setTop (mkF m 17 #[.val (.ref a), .val (.ref li), .unset] [])) (fun _ k => st6 _ k) ?_
  refine Done.st (B := T6.setTop (mkF m 18 #[.val (.ref a), .val (.ref li), .unset] [(.int (0 : Int32))])) (fun _ k => XS.iconst X6.here hx rfl (hb hby d5_17) k) ?_
  refine Done.st (B := T6.setTop (mkF m 19 #[.val (.ref a), .val (.ref li), .val (.int (0 : Int32))] [])) (fun _ k => XS.istoreN X6.here hx rfl (hb hby d5_18) rfl (l' := #[.val (.ref a), .val (.ref li), .val (.int (0 : Int32))]) rfl k) ?_
  refine Done.st (B := T6.setTop (mkF m 20 #[.val (.ref a), .val (.ref li), .val (.int (0 : Int32))] [(.int (0 : Int32))])) (fun _ k => XS.iloadN X6.here hx rfl (hb hby d5_19) rfl k) ?_
  refine Done.st (B := T6.setTop (mkF m 21 #[.val (.ref a), .val (.ref li), .val (.int (0 : Int32))] [(.ref a), (.int (0 : Int32))])) (fun _ k => XS.aloadN X6.here hx rfl (hb hby d5_20) rfl rfl k) ?_
  obtain ⟨T7, X7, e7, st7⟩ := getF X6 hx hZ hown (host := "") (Or.inl (hw _ (List.mem_of_getElem? (i := 47) rfl))) Via.refl e6 F6 (g := (mkF m 21 #[.val (.ref a), .val (.ref li), .val (.int (0 : Int32))] [(.ref a), (.int (0 : Int32))])) rfl rfl (hb hby d5_21)
  refine Done.st (B := T7.setTop (mkF m 24 #[.val (.ref a), .val (.ref li), .val (.int (0 : Int32))] [(.ref b3), (.int (0 : Int32))])) (fun _ k => st7 _ k) ?_
  have c9 := (V3.other W6 (Ne.symm ne_a_b3))
  obtain ⟨cl8, Ar8, q8, S8, M8, -⟩ := id c9
  refine Done.st (B := T7.setTop (mkF m 25 #[.val (.ref a), .val (.ref li), .val (.int (0 : Int32))] [(.int (3 : Int32)), (.int (0 : Int32))])) (fun _ k => X7.arraylength hx (by rw [e7]; exact Ar8.1) (State.isArrayOf_alike hZ.alike Ar8.2.1) (g := (mkF m 24 #[.val (.ref a), .val (.ref li), .val (.int (0 : Int32))] [(.ref b3), (.int (0 : Int32))])) rfl rfl (hb hby d5_24) _ (by rw [len_of S8 M8]; exact k)) ?_
  refine Done.st (B := T7.setTop (mkF m 28 #[.val (.ref a), .val (.ref li), .val (.int (0 : Int32))] [])) (fun _ k => XS.icmpNo X7.here hx rfl (hb hby d5_25) rfl (tlt (by decide : (0 : Int32) < (3 : Int32))).2.1 k) ?_
  refine Done.st (B := T7.setTop (mkF m 29 #[.val (.ref a), .val (.ref li), .val (.int (0 : Int32))] [(.ref a)])) (fun _ k => XS.aloadN X7.here hx rfl (hb hby d5_28) rfl rfl k) ?_
  obtain ⟨T10, X10, e10, st10⟩ := getF X7 hx hZ hown (host := "") (Or.inl (hw _ (List.mem_of_getElem? (i := 47) rfl))) Via.refl e7 F6 (g := (mkF m 29 #[.val (.ref a), .val (.ref li), .val (.int (0 : Int32))] [(.ref a)])) rfl rfl (hb hby d5_29)
  refine Done.st (B := T10.setTop (mkF m 32 #[.val (.ref a), .val (.ref li), .val (.int (0 : Int32))] [(.ref b3)])) (fun _ k => st10 _ k) ?_
  refine Done.st (B := T10.setTop (mkF m 33 #[.val (.ref a), .val (.ref li), .val (.int (0 : Int32))] [(.int (0 : Int32)), (.ref b3)])) (fun _ k => XS.iloadN X10.here hx rfl (hb hby d5_32) rfl k) ?_
  refine Done.st (B := T10.setTop (mkF m 34 #[.val (.ref a), .val (.ref li), .val (.int (0 : Int32))] [(.ref li), (.int (0 : Int32)), (.ref b3)])) (fun _ k => XS.aloadN X10.here hx rfl (hb hby d5_33) rfl rfl k) ?_
  refine Done.st (B := T10.setTop (mkF m 35 #[.val (.ref a), .val (.ref li), .val (.int (0 : Int32))] [(.int (0 : Int32)), (.ref li), (.int (0 : Int32)), (.ref b3)])) (fun _ k => XS.iloadN X10.here hx rfl (hb hby d5_34) rfl k) ?_
  have c11 := (Fld.other W6 (Fld.ext E3 Fe) (Or.inl (Ne.symm nal)))
  have c12 := ((V_t.ext E3).other W6 (Ne.symm nat))
  have c13 := (Fld.other W6 (Fld.ext E3 Fs) (Or.inl (Ne.symm nal)))
  have c14 := (Exa.wr W6 (Exa.ext E3 El))
  obtain ⟨cq15, kq15, q15a, q15b, q15c⟩ := isOf hZ e10 c14
  obtain ⟨_, _, ⟨T15, L15, k15, n15⟩, -, X15, ⟨Lc15, hQ15, l15, y15, z15⟩, st15⟩ := X10.interfaceBack hx (xi := (⟨"java/util/List", "get", "(I)Ljava/lang/Object;"⟩ : MethodName)) (y := (⟨"java/util/ArrayList", "get", "(I)Ljava/lang/Object;"⟩ : MethodName)) hown (mvT hZ (hw _ (List.mem_of_getElem? (i := 83) rfl))) (mvT hZ (hw _ (List.mem_of_getElem? (i := 84) rfl))) (mvT hZ (hw _ (List.mem_of_getElem? (i := 85) rfl))) (mvT hZ (hw _ (List.mem_of_getElem? (i := 86) rfl))) (mvT hZ (hw _ (List.mem_of_getElem? (i := 87) rfl))) (mvT hZ (hw _ (List.mem_of_getElem? (i := 88) rfl))) (mvT hZ (hw _ (List.mem_of_getElem? (i := 89) rfl))) (mvT hZ (hw _ (List.mem_of_getElem? (i := 41) rfl))) (by decide) (backOf (W := 2) (rm13 l Z a0 hw [] li (0 : Int32) t kt [(.ref el0), (.ref el1), (.ref el2), .null, .null, .null, .null, .null, .null, .null] el0 (3 : Int32) h6 n0 Z6 c11 c12 ⟨by decide, by decide⟩ rfl c13 c14 ⟨by decide, by decide⟩) hZ (hw _ (List.mem_of_getElem? (i := 90) rfl)) (hw _ (List.mem_of_getElem? (i := 3) rfl)) (by decide) (by decide)) q15a q15b q15c (g := (mkF m 35 #[.val (.ref a), .val (.ref li), .val (.int (0 : Int32))] [(.int (0 : Int32)), (.ref li), (.int (0 : Int32)), (.ref b3)])) rfl (by rw [hml]; rfl) (Steps.refl _) (argsL := [(.int (0 : Int32))]) (rest := [(.int (0 : Int32)), (.ref b3)]) (lenOf pd_6 rfl) rfl (by show 2 * 0 + _ ≤ _; exact Nat.le_of_eq rfl) (hb hby d5_35) (fun _ _ => ⟨rfl, e10, (by decide : 1 + 0 ≤ _), (by decide : 3 + 0 ≤ _)⟩)
  dsimp only [Pt.U, Pt.locs, Pt.cells, Pt.slots] at X15 l15 y15 z15 st15 hQ15
  subst l15 y15 z15
  obtain ⟨rfl, N15q, e15⟩ := hQ15
  have N15 := Fr.app N6 N15q
  refine Done.st (B := T15.setTop (mkF m 40 #[.val (.ref a), .val (.ref li), .val (.int (0 : Int32))] [(.ref el0), (.int (0 : Int32)), (.ref b3)])) (fun _ k => st15.trans k) ?_
  have c17 := (Exa.wr W6 (Exa.ext E3 X_el0))
  obtain ⟨T16, X16, e16, st16⟩ := castY X15 hx hZ hown (hw _ (List.mem_of_getElem? (i := 45) rfl)) e15 (Ins.self c17) (g := (mkF m 40 #[.val (.ref a), .val (.ref li), .val (.int (0 : Int32))] [(.ref el0), (.int (0 : Int32)), (.ref b3)])) rfl rfl (hb hby d5_40)
  refine Done.st (B := T16.setTop (mkF m 43 #[.val (.ref a), .val (.ref li), .val (.int (0 : Int32))] [(.ref el0), (.int (0 : Int32)), (.ref b3)])) (fun _ k => st16 _ k) ?_
  have c19 := ((Y_el0.ext E3).other W6 (Ne.symm na_el0))
  obtain ⟨kk18, hs18, vs18, dv18, FF18, -⟩ := id c19
  obtain ⟨T18, h18, X18, e18, E18, A18, Ex18, st18⟩ := cloneH X16 hx hZ hown (hw _ (List.mem_of_getElem? (i := 105) rfl)) (hw _ (List.mem_of_getElem? (i := 106) rfl)) (hw _ (List.mem_of_getElem? (i := 110) rfl)) (hw _ (List.mem_of_getElem? (i := 108) rfl)) (hw _ (List.mem_of_getElem? (i := 109) rfl)) (hw _ (List.mem_of_getElem? (i := 111) rfl)) e16 FF18 c17 (g := (mkF m 43 #[.val (.ref a), .val (.ref li), .val (.int (0 : Int32))] [(.ref el0), (.int (0 : Int32)), (.ref b3)])) rfl (by rw [hml]; rfl) rfl (hb hby d5_43) (by decide) (W := 2) (by show 2 * 0 + _ ≤ _; exact Nat.le_of_eq rfl) (by decide) (cap := 7) (own_cap h_ln0) (by decide) (by decide)
  have c20 := ((Y_el1.ext E3).other W6 (Ne.symm na_el1))
  have c21 := ((Y_el2.ext E3).other W6 (Ne.symm na_el2))
  obtain ⟨b18, g18⟩ : ∃ z, z = h6.size := ⟨_, rfl⟩
  rw [← g18] at A18 Ex18 st18
  have ne_li_b18 : li ≠ b18 := Nat.ne_of_lt (Nat.lt_of_lt_of_le c14.lt (Nat.le_of_eq g18.symm))
  have ne_a_b18 : a ≠ b18 := Nat.ne_of_lt (Nat.lt_of_lt_of_le F6.lt (Nat.le_of_eq g18.symm))
  have ne_t_b18 : t ≠ b18 := Nat.ne_of_lt (Nat.lt_of_lt_of_le c12.lt (Nat.le_of_eq g18.symm))
  have ne_el0_b18 : el0 ≠ b18 := Nat.ne_of_lt (Nat.lt_of_lt_of_le c19.lt (Nat.le_of_eq g18.symm))
  have ne_el1_b18 : el1 ≠ b18 := Nat.ne_of_lt (Nat.lt_of_lt_of_le c20.lt (Nat.le_of_eq g18.symm))
  have ne_el2_b18 : el2 ≠ b18 := Nat.ne_of_lt (Nat.lt_of_lt_of_le c21.lt (Nat.le_of_eq g18.symm))
  have ne_b3_b18 : b3 ≠ b18 := Nat.ne_of_lt (Nat.lt_of_lt_of_le c9.lt (Nat.le_of_eq g18.symm))
  have ge_b18 : n0 ≤ b18 := Nat.le_trans Z6 (Nat.le_of_eq g18.symm)
  have sz_b18 : h0.size ≤ b18 := Nat.le_trans (KK6).1 (Nat.le_of_eq g18.symm)
  have Z18 : n0 ≤ h18.size := Nat.le_trans Z6 E18.1
  have Y18 : IA Z h18 b18 ln0 := ⟨_, _, _, _, A18, Ex18⟩
  have KK18 : Keep h0 h18 [a] := (KK6).ext E18
  refine Done.st (B := T18.setTop (mkF m 46 #[.val (.ref a), .val (.ref li), .val (.int (0 : Int32))] [(.ref b18), (.int (0 : Int32)), (.ref b3)])) (fun _ k => st18 _ k) ?_
  obtain ⟨T22, X22, e22, st22⟩ := castY X18 hx hZ hown (hw _ (List.mem_of_getElem? (i := 45) rfl)) e18 (Ins.self Ex18) (g := (mkF m 46 #[.val (.ref a), .val (.ref li), .val (.int (0 : Int32))] [(.ref b18), (.int (0 : Int32)), (.ref b3)])) rfl rfl (hb hby d5_46)
  refine Done.st (B := T22.setTop (mkF m 49 #[.val (.ref a), .val (.ref li), .val (.int (0 : Int32))] [(.ref b18), (.int (0 : Int32)), (.ref b3)])) (fun _ k => st22 _ k) ?_
  have c24 := (c9.ext E18)
  obtain ⟨cl23, Ar23, q23, S23, M23, H23, G23⟩ := id c24
  have hin23 : ¬ ((0 : Int32) < 0 ∨ cl23.slots.size ≤ ((0 : Int32)).toNatClampNeg) := inb_of S23 ⟨by decide, by decide⟩
  obtain ⟨T23, h23, X23, e23, W23, st23⟩ := stR X22 hx hZ e22 Ar23 (j := (0 : Int32)) hin23 rfl (Sto.ofVA Ar23 q23 O3 (Ins.self Ex18)) (g := (mkF m 49 #[.val (.ref a), .val (.ref li), .val (.int (0 : Int32))] [(.ref b18), (.int (0 : Int32)), (.ref b3)])) rfl rfl (hb hby d5_49)
  have V23 : Arv Z h23 b3 k3 (.array .int) (3 : Int32) [(.ref b18), .null, .null] .null := Arv.set Ar23 q23 S23 M23 H23 G23 rfl W23 0 rfl (Nat.le_of_ble_eq_true rfl)
  have N23 := Fr.snoc X23 N15 ge_b3
  have Z23 : n0 ≤ h23.size := Nat.le_trans Z18 (Keep.of_wr W23).1
  have KK23 : Keep h0 h23 [a] := (KK18).wr W23 (Or.inr sz_b3)
  refine Done.st (B := T23.setTop (mkF m 50 #[.val (.ref a), .val (.ref li), .val (.int (0 : Int32))] [])) (fun _ k => st23 _ k) ?_
  refine Done.st (B := T23.setTop (mkF m 53 #[.val (.ref a), .val (.ref li), .val (.int (1 : Int32))] [])) (fun _ k => XS.iinc X23.here hx rfl (hb hby d5_50) rfl (l' := #[.val (.ref a), .val (.ref li), .val (.int (1 : Int32))]) rfl k) ?_
  refine Done.st (B := T23.setTop (mkF m 19 #[.val (.ref a), .val (.ref li), .val (.int (1 : Int32))] [])) (fun _ k => XS.goto X23.here hx rfl (pc0 := 53) (pc' := 19) rfl (hb hby d5_53) (by decide) (by decide) k) ?_
  refine Done.st (B := T23.setTop (mkF m 20 #[.val (.ref a), .val (.ref li), .val (.int (1 : Int32))] [(.int (1 : Int32))])) (fun _ k => XS.iloadN X23.here hx rfl (hb hby d5_19) rfl k) ?_
  refine Done.st (B := T23.setTop (mkF m 21 #[.val (.ref a), .val (.ref li), .val (.int (1 : Int32))] [(.ref a), (.int (1 : Int32))])) (fun _ k => XS.aloadN X23.here hx rfl (hb hby d5_20) rfl rfl k) ?_
  have c26 := (Fld.other W23 (Fld.ext E18 F6) (Or.inl ne_a_b3))
  obtain ⟨T25, X25, e25, st25⟩ := getF X23 hx hZ hown (host := "") (Or.inl (hw _ (List.mem_of_getElem? (i := 47) rfl))) Via.refl e23 c26 (g := (mkF m 21 #[.val (.ref a), .val (.ref li), .val (.int (1 : Int32))] [(.ref a), (.int (1 : Int32))])) rfl rfl (hb hby d5_21)
  refine Done.st (B := T25.setTop (mkF m 24 #[.val (.ref a), .val (.ref li), .val (.int (1 : Int32))] [(.ref b3), (.int (1 : Int32))])) (fun _ k => st25 _ k) ?_
  obtain ⟨cl27, Ar27, q27, S27, M27, -⟩ := id V23
  refine Done.st (B := T25.setTop (mkF m 25 #[.val (.ref a), .val (.ref li), .val (.int (1 : Int32))] [(.int (3 : Int32)), (.int (1 : Int32))])) (fun _ k => X25.arraylength hx (by rw [e25]; exact Ar27.1) (State.isArrayOf_alike hZ.alike Ar27.2.1) (g := (mkF m 24 #[.val (.ref a), .val (.ref li), .val (.int (1 : Int32))] [(.ref b3), (.int (1 : Int32))])) rfl rfl (hb hby d5_24) _ (by rw [len_of S27 M27]; exact k)) ?_
  refine Done.st (B := T25.setTop (mkF m 28 #[.val (.ref a), .val (.ref li), .val (.int (1 : Int32))] [])) (fun _ k => XS.icmpNo X25.here hx rfl (hb hby d5_25) rfl (tlt (by decide : (1 : Int32) < (3 : Int32))).2.1 k) ?_
  refine Done.st (B := T25.setTop (mkF m 29 #[.val (.ref a), .val (.ref li), .val (.int (1 : Int32))] [(.ref a)])) (fun _ k => XS.aloadN X25.here hx rfl (hb hby d5_28) rfl rfl k) ?_
  obtain ⟨T28, X28, e28, st28⟩ := getF X25 hx hZ hown (host := "") (Or.inl (hw _ (List.mem_of_getElem? (i := 47) rfl))) Via.refl e25 c26 (g := (mkF m 29 #[.val (.ref a), .val (.ref li), .val (.int (1 : Int32))] [(.ref a)])) rfl rfl (hb hby d5_29)
  refine Done.st (B := T28.setTop (mkF m 32 #[.val (.ref a), .val (.ref li), .val (.int (1 : Int32))] [(.ref b3)])) (fun _ k => st28 _ k) ?_
  refine Done.st (B := T28.setTop (mkF m 33 #[.val (.ref a), .val (.ref li), .val (.int (1 : Int32))] [(.int (1 : Int32)), (.ref b3)])) (fun _ k => XS.iloadN X28.here hx rfl (hb hby d5_32) rfl k) ?_
  refine Done.st (B := T28.setTop (mkF m 34 #[.val (.ref a), .val (.ref li), .val (.int (1 : Int32))] [(.ref li), (.int (1 : Int32)), (.ref b3)])) (fun _ k => XS.aloadN X28.here hx rfl (hb hby d5_33) rfl rfl k) ?_
  refine Done.st (B := T28.setTop (mkF m 35 #[.val (.ref a), .val (.ref li), .val (.int (1 : Int32))] [(.int (1 : Int32)), (.ref li), (.int (1 : Int32)), (.ref b3)])) (fun _ k => XS.iloadN X28.here hx rfl (hb hby d5_34) rfl k) ?_
  have c29 := (Fld.other W23 (Fld.ext E18 c11) (Or.inl ne_li_b3))
  have c30 := ((c12.ext E18).other W23 ne_t_b3)
  have c31 := (Fld.other W23 (Fld.ext E18 c13) (Or.inl ne_li_b3))
  have c32 := (Exa.wr W23 (Exa.ext E18 c14))
  obtain ⟨cq33, kq33, q33a, q33b, q33c⟩ := isOf hZ e28 c32
  obtain ⟨_, _, ⟨T33, L33, k33, n33⟩, -, X33, ⟨Lc33, hQ33, l33, y33, z33⟩, st33⟩ := X28.interfaceBack hx (xi := (⟨"java/util/List", "get", "(I)Ljava/lang/Object;"⟩ : MethodName)) (y := (⟨"java/util/ArrayList", "get", "(I)Ljava/lang/Object;"⟩ : MethodName)) hown (mvT hZ (hw _ (List.mem_of_getElem? (i := 83) rfl))) (mvT hZ (hw _ (List.mem_of_getElem? (i := 84) rfl))) (mvT hZ (hw _ (List.mem_of_getElem? (i := 85) rfl))) (mvT hZ (hw _ (List.mem_of_getElem? (i := 86) rfl))) (mvT hZ (hw _ (List.mem_of_getElem? (i := 87) rfl))) (mvT hZ (hw _ (List.mem_of_getElem? (i := 88) rfl))) (mvT hZ (hw _ (List.mem_of_getElem? (i := 89) rfl))) (mvT hZ (hw _ (List.mem_of_getElem? (i := 41) rfl))) (by decide) (backOf (W := 2) (rm13 l Z a0 hw [] li (1 : Int32) t kt [(.ref el0), (.ref el1), (.ref el2), .null, .null, .null, .null, .null, .null, .null] el1 (3 : Int32) h23 n0 Z23 c29 c30 ⟨by decide, by decide⟩ rfl c31 c32 ⟨by decide, by decide⟩) hZ (hw _ (List.mem_of_getElem? (i := 90) rfl)) (hw _ (List.mem_of_getElem? (i := 3) rfl)) (by decide) (by decide)) q33a q33b q33c (g := (mkF m 35 #[.val (.ref a), .val (.ref li), .val (.int (1 : Int32))] [(.int (1 : Int32)), (.ref li), (.int (1 : Int32)), (.ref b3)])) rfl (by rw [hml]; rfl) (Steps.refl _) (argsL := [(.int (1 : Int32))]) (rest := [(.int (1 : Int32)), (.ref b3)]) (lenOf pd_6 rfl) rfl (by show 2 * 0 + _ ≤ _; exact Nat.le_of_eq rfl) (hb hby d5_35) (fun _ _ => ⟨rfl, e28, (by decide : 2 + 0 ≤ _), (by decide : 10 + 0 ≤ _)⟩)
  dsimp only [Pt.U, Pt.locs, Pt.cells, Pt.slots] at X33 l33 y33 z33 st33 hQ33
  subst l33 y33 z33
  obtain ⟨rfl, N33q, e33⟩ := hQ33
  have N33 := Fr.app N23 N33q
  refine Done.st (B := T33.setTop (mkF m 40 #[.val (.ref a), .val (.ref li), .val (.int (1 : Int32))] [(.ref el1), (.int (1 : Int32)), (.ref b3)])) (fun _ k => st33.trans k) ?_
  have c35 := (Exa.wr W23 (Exa.ext E18 (Exa.wr W6 (Exa.ext E3 X_el1))))
  obtain ⟨T34, X34, e34, st34⟩ := castY X33 hx hZ hown (hw _ (List.mem_of_getElem? (i := 45) rfl)) e33 (Ins.self c35) (g := (mkF m 40 #[.val (.ref a), .val (.ref li), .val (.int (1 : Int32))] [(.ref el1), (.int (1 : Int32)), (.ref b3)])) rfl rfl (hb hby d5_40)
  refine Done.st (B := T34.setTop (mkF m 43 #[.val (.ref a), .val (.ref li), .val (.int (1 : Int32))] [(.ref el1), (.int (1 : Int32)), (.ref b3)])) (fun _ k => st34 _ k) ?_
  have c37 := ((c20.ext E18).other W23 ne_el1_b3)
  obtain ⟨kk36, hs36, vs36, dv36, FF36, -⟩ := id c37
  obtain ⟨T36, h36, X36, e36, E36, A36, Ex36, st36⟩ := cloneH X34 hx hZ hown (hw _ (List.mem_of_getElem? (i := 105) rfl)) (hw _ (List.mem_of_getElem? (i := 106) rfl)) (hw _ (List.mem_of_getElem? (i := 110) rfl)) (hw _ (List.mem_of_getElem? (i := 108) rfl)) (hw _ (List.mem_of_getElem? (i := 109) rfl)) (hw _ (List.mem_of_getElem? (i := 111) rfl)) e34 FF36 c35 (g := (mkF m 43 #[.val (.ref a), .val (.ref li), .val (.int (1 : Int32))] [(.ref el1), (.int (1 : Int32)), (.ref b3)])) rfl (by rw [hml]; rfl) rfl (hb hby d5_43) (by decide) (W := 2) (by show 2 * 0 + _ ≤ _; exact Nat.le_of_eq rfl) (by decide) (cap := 7) (own_cap h_ln1) (by decide) (by decide)
  have c38 := ((c19.ext E18).other W23 ne_el0_b3)
  have c39 := ((c21.ext E18).other W23 ne_el2_b3)
  have c40 := (Y18.other W23 (Ne.symm ne_b3_b18))
  obtain ⟨b36, g36⟩ : ∃ z, z = h23.size := ⟨_, rfl⟩
  rw [← g36] at A36 Ex36 st36
  have ne_li_b36 : li ≠ b36 := Nat.ne_of_lt (Nat.lt_of_lt_of_le c32.lt (Nat.le_of_eq g36.symm))
  have ne_a_b36 : a ≠ b36 := Nat.ne_of_lt (Nat.lt_of_lt_of_le c26.lt (Nat.le_of_eq g36.symm))
  have ne_t_b36 : t ≠ b36 := Nat.ne_of_lt (Nat.lt_of_lt_of_le c30.lt (Nat.le_of_eq g36.symm))
  have ne_el0_b36 : el0 ≠ b36 := Nat.ne_of_lt (Nat.lt_of_lt_of_le c38.lt (Nat.le_of_eq g36.symm))
  have ne_el1_b36 : el1 ≠ b36 := Nat.ne_of_lt (Nat.lt_of_lt_of_le c37.lt (Nat.le_of_eq g36.symm))
  have ne_el2_b36 : el2 ≠ b36 := Nat.ne_of_lt (Nat.lt_of_lt_of_le c39.lt (Nat.le_of_eq g36.symm))
  have ne_b3_b36 : b3 ≠ b36 := Nat.ne_of_lt (Nat.lt_of_lt_of_le V23.lt (Nat.le_of_eq g36.symm))
  have ne_b18_b36 : b18 ≠ b36 := Nat.ne_of_lt (Nat.lt_of_lt_of_le c40.lt (Nat.le_of_eq g36.symm))
  have ge_b36 : n0 ≤ b36 := Nat.le_trans Z23 (Nat.le_of_eq g36.symm)
  have sz_b36 : h0.size ≤ b36 := Nat.le_trans (KK23).1 (Nat.le_of_eq g36.symm)
  have Z36 : n0 ≤ h36.size := Nat.le_trans Z23 E36.1
  have Y36 : IA Z h36 b36 ln1 := ⟨_, _, _, _, A36, Ex36⟩
  have KK36 : Keep h0 h36 [a] := (KK23).ext E36
  refine Done.st (B := T36.setTop (mkF m 46 #[.val (.ref a), .val (.ref li), .val (.int (1 : Int32))] [(.ref b36), (.int (1 : Int32)), (.ref b3)])) (fun _ k => st36 _ k) ?_
  obtain ⟨T41, X41, e41, st41⟩ := castY X36 hx hZ hown (hw _ (List.mem_of_getElem? (i := 45) rfl)) e36 (Ins.self Ex36) (g := (mkF m 46 #[.val (.ref a), .val (.ref li), .val (.int (1 : Int32))] [(.ref b36), (.int (1 : Int32)), (.ref b3)])) rfl rfl (hb hby d5_46)
  refine Done.st (B := T41.setTop (mkF m 49 #[.val (.ref a), .val (.ref li), .val (.int (1 : Int32))] [(.ref b36), (.int (1 : Int32)), (.ref b3)])) (fun _ k => st41 _ k) ?_
  have c43 := (V23.ext E36)
  obtain ⟨cl42, Ar42, q42, S42, M42, H42, G42⟩ := id c43
  have hin42 : ¬ ((1 : Int32) < 0 ∨ cl42.slots.size ≤ ((1 : Int32)).toNatClampNeg) := inb_of S42 ⟨by decide, by decide⟩
  obtain ⟨T42, h42, X42, e42, W42, st42⟩ := stR X41 hx hZ e41 Ar42 (j := (1 : Int32)) hin42 rfl (Sto.ofVA Ar42 q42 O3 (Ins.self Ex36)) (g := (mkF m 49 #[.val (.ref a), .val (.ref li), .val (.int (1 : Int32))] [(.ref b36), (.int (1 : Int32)), (.ref b3)])) rfl rfl (hb hby d5_49)
  have V42 : Arv Z h42 b3 k3 (.array .int) (3 : Int32) [(.ref b18), (.ref b36), .null] .null := Arv.set Ar42 q42 S42 M42 H42 G42 rfl W42 1 rfl (Nat.le_of_ble_eq_true rfl)
  have N42 := Fr.snoc X42 N33 ge_b3
  have Z42 : n0 ≤ h42.size := Nat.le_trans Z36 (Keep.of_wr W42).1
  have KK42 : Keep h0 h42 [a] := (KK36).wr W42 (Or.inr sz_b3)
  refine Done.st (B := T42.setTop (mkF m 50 #[.val (.ref a), .val (.ref li), .val (.int (1 : Int32))] [])) (fun _ k => st42 _ k) ?_
  refine Done.st (B := T42.setTop (mkF m 53 #[.val (.ref a), .val (.ref li), .val (.int (2 : Int32))] [])) (fun _ k => XS.iinc X42.here hx rfl (hb hby d5_50) rfl (l' := #[.val (.ref a), .val (.ref li), .val (.int (2 : Int32))]) rfl k) ?_
  refine Done.st (B := T42.setTop (mkF m 19 #[.val (.ref a), .val (.ref li), .val (.int (2 : Int32))] [])) (fun _ k => XS.goto X42.here hx rfl (pc0 := 53) (pc' := 19) rfl (hb hby d5_53) (by decide) (by decide) k) ?_
  refine Done.st (B := T42.setTop (mkF m 20 #[.val (.ref a), .val (.ref li), .val (.int (2 : Int32))] [(.int (2 : Int32))])) (fun _ k => XS.iloadN X42.here hx rfl (hb hby d5_19) rfl k) ?_
  refine Done.st (B := T42.setTop (mkF m 21 #[.val (.ref a), .val (.ref li), .val (.int (2 : Int32))] [(.ref a), (.int (2 : Int32))])) (fun _ k => XS.aloadN X42.here hx rfl (hb hby d5_20) rfl rfl k) ?_
  have c45 := (Fld.other W42 (Fld.ext E36 c26) (Or.inl ne_a_b3))
  obtain ⟨T44, X44, e44, st44⟩ := getF X42 hx hZ hown (host := "") (Or.inl (hw _ (List.mem_of_getElem? (i := 47) rfl))) Via.refl e42 c45 (g := (mkF m 21 #[.val (.ref a), .val (.ref li), .val (.int (2 : Int32))] [(.ref a), (.int (2 : Int32))])) rfl rfl (hb hby d5_21)
  refine Done.st (B := T44.setTop (mkF m 24 #[.val (.ref a), .val (.ref li), .val (.int (2 : Int32))] [(.ref b3), (.int (2 : Int32))])) (fun _ k => st44 _ k) ?_
  obtain ⟨cl46, Ar46, q46, S46, M46, -⟩ := id V42
  refine Done.st (B := T44.setTop (mkF m 25 #[.val (.ref a), .val (.ref li), .val (.int (2 : Int32))] [(.int (3 : Int32)), (.int (2 : Int32))])) (fun _ k => X44.arraylength hx (by rw [e44]; exact Ar46.1) (State.isArrayOf_alike hZ.alike Ar46.2.1) (g := (mkF m 24 #[.val (.ref a), .val (.ref li), .val (.int (2 : Int32))] [(.ref b3), (.int (2 : Int32))])) rfl rfl (hb hby d5_24) _ (by rw [len_of S46 M46]; exact k)) ?_
  refine Done.st (B := T44.setTop (mkF m 28 #[.val (.ref a), .val (.ref li), .val (.int (2 : Int32))] [])) (fun _ k => XS.icmpNo X44.here hx rfl (hb hby d5_25) rfl (tlt (by decide : (2 : Int32) < (3 : Int32))).2.1 k) ?_
  refine Done.st (B := T44.setTop (mkF m 29 #[.val (.ref a), .val (.ref li), .val (.int (2 : Int32))] [(.ref a)])) (fun _ k => XS.aloadN X44.here hx rfl (hb hby d5_28) rfl rfl k) ?_
  obtain ⟨T47, X47, e47, st47⟩ := getF X44 hx hZ hown (host := "") (Or.inl (hw _ (List.mem_of_getElem? (i := 47) rfl))) Via.refl e44 c45 (g := (mkF m 29 #[.val (.ref a), .val (.ref li), .val (.int (2 : Int32))] [(.ref a)])) rfl rfl (hb hby d5_29)
  refine Done.st (B := T47.setTop (mkF m 32 #[.val (.ref a), .val (.ref li), .val (.int (2 : Int32))] [(.ref b3)])) (fun _ k => st47 _ k) ?_
  refine Done.st (B := T47.setTop (mkF m 33 #[.val (.ref a), .val (.ref li), .val (.int (2 : Int32))] [(.int (2 : Int32)), (.ref b3)])) (fun _ k => XS.iloadN X47.here hx rfl (hb hby d5_32) rfl k) ?_
  refine Done.st (B := T47.setTop (mkF m 34 #[.val (.ref a), .val (.ref li), .val (.int (2 : Int32))] [(.ref li), (.int (2 : Int32)), (.ref b3)])) (fun _ k => XS.aloadN X47.here hx rfl (hb hby d5_33) rfl rfl k) ?_
  refine Done.st (B := T47.setTop (mkF m 35 #[.val (.ref a), .val (.ref li), .val (.int (2 : Int32))] [(.int (2 : Int32)), (.ref li), (.int (2 : Int32)), (.ref b3)])) (fun _ k => XS.iloadN X47.here hx rfl (hb hby d5_34) rfl k) ?_
  have c48 := (Fld.other W42 (Fld.ext E36 c29) (Or.inl ne_li_b3))
  have c49 := ((c30.ext E36).other W42 ne_t_b3)
  have c50 := (Fld.other W42 (Fld.ext E36 c31) (Or.inl ne_li_b3))
  have c51 := (Exa.wr W42 (Exa.ext E36 c32))
  obtain ⟨cq52, kq52, q52a, q52b, q52c⟩ := isOf hZ e47 c51
  obtain ⟨_, _, ⟨T52, L52, k52, n52⟩, -, X52, ⟨Lc52, hQ52, l52, y52, z52⟩, st52⟩ := X47.interfaceBack hx (xi := (⟨"java/util/List", "get", "(I)Ljava/lang/Object;"⟩ : MethodName)) (y := (⟨"java/util/ArrayList", "get", "(I)Ljava/lang/Object;"⟩ : MethodName)) hown (mvT hZ (hw _ (List.mem_of_getElem? (i := 83) rfl))) (mvT hZ (hw _ (List.mem_of_getElem? (i := 84) rfl))) (mvT hZ (hw _ (List.mem_of_getElem? (i := 85) rfl))) (mvT hZ (hw _ (List.mem_of_getElem? (i := 86) rfl))) (mvT hZ (hw _ (List.mem_of_getElem? (i := 87) rfl))) (mvT hZ (hw _ (List.mem_of_getElem? (i := 88) rfl))) (mvT hZ (hw _ (List.mem_of_getElem? (i := 89) rfl))) (mvT hZ (hw _ (List.mem_of_getElem? (i := 41) rfl))) (by decide) (backOf (W := 2) (rm13 l Z a0 hw [] li (2 : Int32) t kt [(.ref el0), (.ref el1), (.ref el2), .null, .null, .null, .null, .null, .null, .null] el2 (3 : Int32) h42 n0 Z42 c48 c49 ⟨by decide, by decide⟩ rfl c50 c51 ⟨by decide, by decide⟩) hZ (hw _ (List.mem_of_getElem? (i := 90) rfl)) (hw _ (List.mem_of_getElem? (i := 3) rfl)) (by decide) (by decide)) q52a q52b q52c (g := (mkF m 35 #[.val (.ref a), .val (.ref li), .val (.int (2 : Int32))] [(.int (2 : Int32)), (.ref li), (.int (2 : Int32)), (.ref b3)])) rfl (by rw [hml]; rfl) (Steps.refl _) (argsL := [(.int (2 : Int32))]) (rest := [(.int (2 : Int32)), (.ref b3)]) (lenOf pd_6 rfl) rfl (by show 2 * 0 + _ ≤ _; exact Nat.le_of_eq rfl) (hb hby d5_35) (fun _ _ => ⟨rfl, e47, (by decide : 3 + 0 ≤ _), (by decide : 17 + 0 ≤ _)⟩)
  dsimp only [Pt.U, Pt.locs, Pt.cells, Pt.slots] at X52 l52 y52 z52 st52 hQ52
  subst l52 y52 z52
  obtain ⟨rfl, N52q, e52⟩ := hQ52
  have N52 := Fr.app N42 N52q
  refine Done.st (B := T52.setTop (mkF m 40 #[.val (.ref a), .val (.ref li), .val (.int (2 : Int32))] [(.ref el2), (.int (2 : Int32)), (.ref b3)])) (fun _ k => st52.trans k) ?_
  have c54 := (Exa.wr W42 (Exa.ext E36 (Exa.wr W23 (Exa.ext E18 (Exa.wr W6 (Exa.ext E3 X_el2))))))
  obtain ⟨T53, X53, e53, st53⟩ := castY X52 hx hZ hown (hw _ (List.mem_of_getElem? (i := 45) rfl)) e52 (Ins.self c54) (g := (mkF m 40 #[.val (.ref a), .val (.ref li), .val (.int (2 : Int32))] [(.ref el2), (.int (2 : Int32)), (.ref b3)])) rfl rfl (hb hby d5_40)
  refine Done.st (B := T53.setTop (mkF m 43 #[.val (.ref a), .val (.ref li), .val (.int (2 : Int32))] [(.ref el2), (.int (2 : Int32)), (.ref b3)])) (fun _ k => st53 _ k) ?_
  have c56 := ((c39.ext E36).other W42 ne_el2_b3)
  obtain ⟨kk55, hs55, vs55, dv55, FF55, -⟩ := id c56
  obtain ⟨T55, h55, X55, e55, E55, A55, Ex55, st55⟩ := cloneH X53 hx hZ hown (hw _ (List.mem_of_getElem? (i := 105) rfl)) (hw _ (List.mem_of_getElem? (i := 106) rfl)) (hw _ (List.mem_of_getElem? (i := 110) rfl)) (hw _ (List.mem_of_getElem? (i := 108) rfl)) (hw _ (List.mem_of_getElem? (i := 109) rfl)) (hw _ (List.mem_of_getElem? (i := 111) rfl)) e53 FF55 c54 (g := (mkF m 43 #[.val (.ref a), .val (.ref li), .val (.int (2 : Int32))] [(.ref el2), (.int (2 : Int32)), (.ref b3)])) rfl (by rw [hml]; rfl) rfl (hb hby d5_43) (by decide) (W := 2) (by show 2 * 0 + _ ≤ _; exact Nat.le_of_eq rfl) (by decide) (cap := 7) (own_cap h_ln2) (by decide) (by decide)
  have c57 := ((c38.ext E36).other W42 ne_el0_b3)
  have c58 := ((c37.ext E36).other W42 ne_el1_b3)
  have c59 := ((c40.ext E36).other W42 (Ne.symm ne_b3_b18))
  have c60 := (Y36.other W42 (Ne.symm ne_b3_b36))
  obtain ⟨b55, g55⟩ : ∃ z, z = h42.size := ⟨_, rfl⟩
  rw [← g55] at A55 Ex55 st55
  have ne_li_b55 : li ≠ b55 := Nat.ne_of_lt (Nat.lt_of_lt_of_le c51.lt (Nat.le_of_eq g55.symm))
  have ne_a_b55 : a ≠ b55 := Nat.ne_of_lt (Nat.lt_of_lt_of_le c45.lt (Nat.le_of_eq g55.symm))
  have ne_t_b55 : t ≠ b55 := Nat.ne_of_lt (Nat.lt_of_lt_of_le c49.lt (Nat.le_of_eq g55.symm))
  have ne_el0_b55 : el0 ≠ b55 := Nat.ne_of_lt (Nat.lt_of_lt_of_le c57.lt (Nat.le_of_eq g55.symm))
  have ne_el1_b55 : el1 ≠ b55 := Nat.ne_of_lt (Nat.lt_of_lt_of_le c58.lt (Nat.le_of_eq g55.symm))
  have ne_el2_b55 : el2 ≠ b55 := Nat.ne_of_lt (Nat.lt_of_lt_of_le c56.lt (Nat.le_of_eq g55.symm))
  have ne_b3_b55 : b3 ≠ b55 := Nat.ne_of_lt (Nat.lt_of_lt_of_le V42.lt (Nat.le_of_eq g55.symm))
  have ne_b18_b55 : b18 ≠ b55 := Nat.ne_of_lt (Nat.lt_of_lt_of_le c59.lt (Nat.le_of_eq g55.symm))
  have ne_b36_b55 : b36 ≠ b55 := Nat.ne_of_lt (Nat.lt_of_lt_of_le c60.lt (Nat.le_of_eq g55.symm))
  have ge_b55 : n0 ≤ b55 := Nat.le_trans Z42 (Nat.le_of_eq g55.symm)
  have sz_b55 : h0.size ≤ b55 := Nat.le_trans (KK42).1 (Nat.le_of_eq g55.symm)
  have Z55 : n0 ≤ h55.size := Nat.le_trans Z42 E55.1
  have Y55 : IA Z h55 b55 ln2 := ⟨_, _, _, _, A55, Ex55⟩
  have KK55 : Keep h0 h55 [a] := (KK42).ext E55
  refine Done.st (B := T55.setTop (mkF m 46 #[.val (.ref a), .val (.ref li), .val (.int (2 : Int32))] [(.ref b55), (.int (2 : Int32)), (.ref b3)])) (fun _ k => st55 _ k) ?_
  obtain ⟨T61, X61, e61, st61⟩ := castY X55 hx hZ hown (hw _ (List.mem_of_getElem? (i := 45) rfl)) e55 (Ins.self Ex55) (g := (mkF m 46 #[.val (.ref a), .val (.ref li), .val (.int (2 : Int32))] [(.ref b55), (.int (2 : Int32)), (.ref b3)])) rfl rfl (hb hby d5_46)
  refine Done.st (B := T61.setTop (mkF m 49 #[.val (.ref a), .val (.ref li), .val (.int (2 : Int32))] [(.ref b55), (.int (2 : Int32)), (.ref b3)])) (fun _ k => st61 _ k) ?_
  have c63 := (V42.ext E55)
  obtain ⟨cl62, Ar62, q62, S62, M62, H62, G62⟩ := id c63
  have hin62 : ¬ ((2 : Int32) < 0 ∨ cl62.slots.size ≤ ((2 : Int32)).toNatClampNeg) := inb_of S62 ⟨by decide, by decide⟩
  obtain ⟨T62, h62, X62, e62, W62, st62⟩ := stR X61 hx hZ e61 Ar62 (j := (2 : Int32)) hin62 rfl (Sto.ofVA Ar62 q62 O3 (Ins.self Ex55)) (g := (mkF m 49 #[.val (.ref a), .val (.ref li), .val (.int (2 : Int32))] [(.ref b55), (.int (2 : Int32)), (.ref b3)])) rfl rfl (hb hby d5_49)
  have V62 : Arv Z h62 b3 k3 (.array .int) (3 : Int32) [(.ref b18), (.ref b36), (.ref b55)] .null := Arv.set Ar62 q62 S62 M62 H62 G62 rfl W62 2 rfl (Nat.le_of_ble_eq_true rfl)
  have N62 := Fr.snoc X62 N52 ge_b3
  have Z62 : n0 ≤ h62.size := Nat.le_trans Z55 (Keep.of_wr W62).1
  have KK62 : Keep h0 h62 [a] := (KK55).wr W62 (Or.inr sz_b3)
  refine Done.st (B := T62.setTop (mkF m 50 #[.val (.ref a), .val (.ref li), .val (.int (2 : Int32))] [])) (fun _ k => st62 _ k) ?_
  refine Done.st (B := T62.setTop (mkF m 53 #[.val (.ref a), .val (.ref li), .val (.int (3 : Int32))] [])) (fun _ k => XS.iinc X62.here hx rfl (hb hby d5_50) rfl (l' := #[.val (.ref a), .val (.ref li), .val (.int (3 : Int32))]) rfl k) ?_
  refine Done.st (B := T62.setTop (mkF m 19 #[.val (.ref a), .val (.ref li), .val (.int (3 : Int32))] [])) (fun _ k => XS.goto X62.here hx rfl (pc0 := 53) (pc' := 19) rfl (hb hby d5_53) (by decide) (by decide) k) ?_
  refine Done.st (B := T62.setTop (mkF m 20 #[.val (.ref a), .val (.ref li), .val (.int (3 : Int32))] [(.int (3 : Int32))])) (fun _ k => XS.iloadN X62.here hx rfl (hb hby d5_19) rfl k) ?_
  refine Done.st (B := T62.setTop (mkF m 21 #[.val (.ref a), .val (.ref li), .val (.int (3 : Int32))] [(.ref a), (.int (3 : Int32))])) (fun _ k => XS.aloadN X62.here hx rfl (hb hby d5_20) rfl rfl k) ?_
  have c65 := (Fld.other W62 (Fld.ext E55 c45) (Or.inl ne_a_b3))
  obtain ⟨T64, X64, e64, st64⟩ := getF X62 hx hZ hown (host := "") (Or.inl (hw _ (List.mem_of_getElem? (i := 47) rfl))) Via.refl e62 c65 (g := (mkF m 21 #[.val (.ref a), .val (.ref li), .val (.int (3 : Int32))] [(.ref a), (.int (3 : Int32))])) rfl rfl (hb hby d5_21)
  refine Done.st (B := T64.setTop (mkF m 24 #[.val (.ref a), .val (.ref li), .val (.int (3 : Int32))] [(.ref b3), (.int (3 : Int32))])) (fun _ k => st64 _ k) ?_
  obtain ⟨cl66, Ar66, q66, S66, M66, -⟩ := id V62
  refine Done.st (B := T64.setTop (mkF m 25 #[.val (.ref a), .val (.ref li), .val (.int (3 : Int32))] [(.int (3 : Int32)), (.int (3 : Int32))])) (fun _ k => X64.arraylength hx (by rw [e64]; exact Ar66.1) (State.isArrayOf_alike hZ.alike Ar66.2.1) (g := (mkF m 24 #[.val (.ref a), .val (.ref li), .val (.int (3 : Int32))] [(.ref b3), (.int (3 : Int32))])) rfl rfl (hb hby d5_24) _ (by rw [len_of S66 M66]; exact k)) ?_
  refine Done.st (B := T64.setTop (mkF m 56 #[.val (.ref a), .val (.ref li), .val (.int (3 : Int32))] [])) (fun _ k => XS.icmpYes X64.here hx rfl (pc0 := 25) (pc' := 56) rfl (hb hby d5_25) rfl (flt (by decide : ¬ ((3 : Int32) < (3 : Int32)))).2.1 (by decide) (by decide) k) ?_
  obtain ⟨fs, hr, hrun, hended, hW, hsame⟩ := X64.leave (v := none) (hlocks := hlk) (fun _ => rfl)
  have c68 := (Exa.wr W62 (Exa.ext E55 (Exa.wr W42 (Exa.ext E36 (Exa.wr W23 (Exa.ext E18 (Exa.wr W6 c4)))))))
  have c69 := ((c59.ext E55).other W62 (Ne.symm ne_b3_b18))
  have c70 := ((c60.ext E55).other W62 (Ne.symm ne_b3_b36))
  have c71 := (Y55.other W62 (Ne.symm ne_b3_b55))
  refine Done.fin (X64.returnOut hx Bd.returns (hb hby d5_56) hr) hrun hended ⟨_, _, rfl, ?_, ⟨_, rfl⟩, hW, hsame.mono (by decide) (by decide)⟩
  show QrmSI_3 Z a li mc t kt el0 el1 el2 ln0 ln1 ln2 h0 n0 _ T64.heap _
  rw [e64]
  exact ⟨b3, _, b18, b36, b55, rfl, N62, KK62, sz_b3, c68, c65, V62, c69, c70, c71⟩
theorem ef_rmIC_3 (m : MethodId) (a : Addr) : entryFrame m #[(.ref a)] 7 = mkF m 0 #[.val (.ref a), .unset, .unset, .unset, .unset, .unset, .unset] [] := by first | (simp [entryFrame, mkF, argsToLocals, Value.category]; done) | rfl
def QrmIC_3 (Z : State) (a : Addr) (u : Addr) (ku : ClassId) (ca0 : Addr) (ca1 : Addr) (ca2 : Addr) (ln0 : Int32) (ln1 : Int32) (ln2 : Int32) (h0 : Heap) (n0 : Nat) (v : Option Value) (h : Heap) (L : List Loc) : Prop := v = some (.long ((((0 : Int64) + (ln0.toInt64)) + (ln1.toInt64)) + (ln2.toInt64))) ∧ Fr n0 L ∧ h = h0
def PrmIC_3 (s : State) (Z : State) (a : Addr) (u : Addr) (ku : ClassId) (ca0 : Addr) (ca1 : Addr) (ca2 : Addr) (ln0 : Int32) (ln1 : Int32) (ln2 : Int32) (h0 : Heap) (n0 : Nat) : State → Outcome → Prop := fun U' o => ∃ v L, o = .returned v ∧ QrmIC_3 Z a u ku ca0 ca1 ca2 ln0 ln1 ln2 h0 n0 v U'.heap L ∧ FrameEnd s o U' L ({ frames := 0, cells := 0, slots := 0, locals := 0 } : Room).cells ({ frames := 0, cells := 0, slots := 0, locals := 0 } : Room).slots
set_option maxRecDepth 65536 in
set_option maxHeartbeats 40000000 in
theorem rmIC_3 (l : Launch) (Z : State) (a0 : Array Value) (hw : ∀ d ∈ tables_1, d.before a0 Z = true) (ws : List Jvm.Cond) (a : Addr) (u : Addr) (ku : ClassId) (ca0 : Addr) (ca1 : Addr) (ca2 : Addr) (ln0 : Int32) (ln1 : Int32) (ln2 : Int32) (h0 : Heap) (n0 : Nat) (Z0 : n0 ≤ h0.size) (Fa : Fld Z h0 a "com/example/percurso/percurso/suite/Suite" "tests" "[[I" (.ref u)) (Vu : Arv Z h0 u ku (.array .int) (3 : Int32) [(.ref ca0), (.ref ca1), (.ref ca2)] .null) (Y_ca0 : IA Z h0 ca0 ln0) (Y_ca1 : IA Z h0 ca1 ln1) (Y_ca2 : IA Z h0 ca2 ln2) :
    MetFree l (⟨"com/example/percurso/percurso/suite/Suite", "inputCount", "()J"⟩ : MethodName) (head1 (Jvm.Cond.code (⟨"com/example/percurso/percurso/suite/Suite", "inputCount", "()J"⟩ : MethodName) prog_192_method_7_code 7 (some .long) :: ws) ({ frames := 0, cells := 0, slots := 0, locals := 0 } : Room)) (fun aa U => aa = #[(.ref a)] ∧ Z.Warmed39 U.vm ∧ U.heap = h0) (fun _ _ _ _ _ => True) (fun _ U o U' => ∃ v L, o = .returned v ∧ QrmIC_3 Z a u ku ca0 ca1 ca2 ln0 ln1 ln2 h0 n0 v U'.heap L ∧ FrameEnd U o U' L ({ frames := 0, cells := 0, slots := 0, locals := 0 } : Room).cells ({ frames := 0, cells := 0, slots := 0, locals := 0 } : Room).slots) := by
  refine MetFree.of_bodySF (plainFor_of_name pn_5) hisR ?_
  intro p e s m args below meth c s₁ Bd hml0 hP hK
  obtain ⟨rfl, hZ, hh⟩ := hP
  have hx := Bd.exec
  have hlk : meth.locks = false := by first | exact BodyLoose.notSynchronized Bd | exact Body.notSynchronized Bd
  have hby := Bd.bytes
  have hml : c.maxLocals = 7 := hml0
  have hown : s.vm.findClass "com/example/percurso/percurso/suite/Suite" = some m.cls := findClass_of_methodNamed Bd.named
  have hnm := (name_of_methodNamed Bd.named Bd.method).1
  have X0 : Stand p l e ({ frames := 0, cells := 0, slots := 0, locals := 0 } : Room) s m #[(.ref a)] below meth c s₁ [] 0 0 := Stand.of_body Bd
  have e0 : s₁.heap = h0 := by rw [← hh, Bd.state]; rfl
  have N0 := Fr.nil n0
  show Done p e below (PrmIC_3 s Z a u ku ca0 ca1 ca2 ln0 ln1 ln2 h0 n0) (s₁.setTop (entryFrame m #[(.ref a)] 7))
  refine Done.st (B := s₁.setTop (mkF m 0 #[.val (.ref a), .unset, .unset, .unset, .unset, .unset, .unset] [])) (fun _ k => castTop (ef_rmIC_3 m a) k) ?_
  refine Done.st (B := s₁.setTop (mkF m 1 #[.val (.ref a), .unset, .unset, .unset, .unset, .unset, .unset] [(.long (0 : Int64))])) (fun _ k => XS.lconst X0.here hx rfl (hb hby d7_0) k) ?_
  refine Done.st (B := s₁.setTop (mkF m 2 #[.val (.ref a), .val (.long (0 : Int64)), .second, .unset, .unset, .unset, .unset] [])) (fun _ k => XS.lstoreN X0.here hx rfl (hb hby d7_1) rfl (l' := #[.val (.ref a), .val (.long (0 : Int64)), .second, .unset, .unset, .unset, .unset]) rfl k) ?_
  refine Done.st (B := s₁.setTop (mkF m 3 #[.val (.ref a), .val (.long (0 : Int64)), .second, .unset, .unset, .unset, .unset] [(.ref a)])) (fun _ k => XS.aloadN X0.here hx rfl (hb hby d7_2) rfl rfl k) ?_
  obtain ⟨T1, X1, e1, st1⟩ := getF X0 hx hZ hown (host := "") (Or.inl (hw _ (List.mem_of_getElem? (i := 47) rfl))) Via.refl e0 Fa (g := (mkF m 3 #[.val (.ref a), .val (.long (0 : Int64)), .second, .unset, .unset, .unset, .unset] [(.ref a)])) rfl rfl (hb hby d7_3)
  refine Done.st (B := T1.setTop (mkF m 6 #[.val (.ref a), .val (.long (0 : Int64)), .second, .unset, .unset, .unset, .unset] [(.ref u)])) (fun _ k => st1 _ k) ?_
  refine Done.st (B := T1.setTop (mkF m 7 #[.val (.ref a), .val (.long (0 : Int64)), .second, .val (.ref u), .unset, .unset, .unset] [])) (fun _ k => XS.astoreN X1.here hx rfl (hb hby d7_6) rfl rfl (l' := #[.val (.ref a), .val (.long (0 : Int64)), .second, .val (.ref u), .unset, .unset, .unset]) rfl k) ?_
  refine Done.st (B := T1.setTop (mkF m 8 #[.val (.ref a), .val (.long (0 : Int64)), .second, .val (.ref u), .unset, .unset, .unset] [(.ref u)])) (fun _ k => XS.aloadN X1.here hx rfl (hb hby d7_7) rfl rfl k) ?_
  obtain ⟨cl2, Ar2, q2, S2, M2, -⟩ := id Vu
  refine Done.st (B := T1.setTop (mkF m 9 #[.val (.ref a), .val (.long (0 : Int64)), .second, .val (.ref u), .unset, .unset, .unset] [(.int (3 : Int32))])) (fun _ k => X1.arraylength hx (by rw [e1]; exact Ar2.1) (State.isArrayOf_alike hZ.alike Ar2.2.1) (g := (mkF m 8 #[.val (.ref a), .val (.long (0 : Int64)), .second, .val (.ref u), .unset, .unset, .unset] [(.ref u)])) rfl rfl (hb hby d7_8) _ (by rw [len_of S2 M2]; exact k)) ?_
  refine Done.st (B := T1.setTop (mkF m 11 #[.val (.ref a), .val (.long (0 : Int64)), .second, .val (.ref u), .val (.int (3 : Int32)), .unset, .unset] [])) (fun _ k => XS.istore X1.here hx rfl (hb hby d7_9) rfl (l' := #[.val (.ref a), .val (.long (0 : Int64)), .second, .val (.ref u), .val (.int (3 : Int32)), .unset, .unset]) rfl k) ?_
  refine Done.st (B := T1.setTop (mkF m 12 #[.val (.ref a), .val (.long (0 : Int64)), .second, .val (.ref u), .val (.int (3 : Int32)), .unset, .unset] [(.int (0 : Int32))])) (fun _ k => XS.iconst X1.here hx rfl (hb hby d7_11) k) ?_
  refine Done.st (B := T1.setTop (mkF m 14 #[.val (.ref a), .val (.long (0 : Int64)), .second, .val (.ref u), .val (.int (3 : Int32)), .val (.int (0 : Int32)), .unset] [])) (fun _ k => XS.istore X1.here hx rfl (hb hby d7_12) rfl (l' := #[.val (.ref a), .val (.long (0 : Int64)), .second, .val (.ref u), .val (.int (3 : Int32)), .val (.int (0 : Int32)), .unset]) rfl k) ?_
  refine Done.st (B := T1.setTop (mkF m 16 #[.val (.ref a), .val (.long (0 : Int64)), .second, .val (.ref u), .val (.int (3 : Int32)), .val (.int (0 : Int32)), .unset] [(.int (0 : Int32))])) (fun _ k => XS.iload X1.here hx rfl (hb hby d7_14) rfl k) ?_
  refine Done.st (B := T1.setTop (mkF m 18 #[.val (.ref a), .val (.long (0 : Int64)), .second, .val (.ref u), .val (.int (3 : Int32)), .val (.int (0 : Int32)), .unset] [(.int (3 : Int32)), (.int (0 : Int32))])) (fun _ k => XS.iload X1.here hx rfl (hb hby d7_16) rfl k) ?_
  refine Done.st (B := T1.setTop (mkF m 21 #[.val (.ref a), .val (.long (0 : Int64)), .second, .val (.ref u), .val (.int (3 : Int32)), .val (.int (0 : Int32)), .unset] [])) (fun _ k => XS.icmpNo X1.here hx rfl (hb hby d7_18) rfl (tlt (by decide : (0 : Int32) < (3 : Int32))).2.1 k) ?_
  refine Done.st (B := T1.setTop (mkF m 22 #[.val (.ref a), .val (.long (0 : Int64)), .second, .val (.ref u), .val (.int (3 : Int32)), .val (.int (0 : Int32)), .unset] [(.ref u)])) (fun _ k => XS.aloadN X1.here hx rfl (hb hby d7_21) rfl rfl k) ?_
  refine Done.st (B := T1.setTop (mkF m 24 #[.val (.ref a), .val (.long (0 : Int64)), .second, .val (.ref u), .val (.int (3 : Int32)), .val (.int (0 : Int32)), .unset] [(.int (0 : Int32)), (.ref u)])) (fun _ k => XS.iload X1.here hx rfl (hb hby d7_22) rfl k) ?_
  obtain ⟨cl3, Ar3, q3, S3, M3, H3, G3⟩ := id Vu
  have hin3 : ¬ ((0 : Int32) < 0 ∨ cl3.slots.size ≤ ((0 : Int32)).toNatClampNeg) := inb_of S3 ⟨by decide, by decide⟩
  have hat3 : cl3.slots[((0 : Int32)).toNatClampNeg]? = some (.ref ca0) := Has.at H3 hin3 rfl
  refine Done.st (B := T1.setTop (mkF m 25 #[.val (.ref a), .val (.long (0 : Int64)), .second, .val (.ref u), .val (.int (3 : Int32)), .val (.int (0 : Int32)), .unset] [(.ref ca0)])) (fun _ k => X1.aaload hx (j := (0 : Int32)) (v := (.ref ca0)) (by rw [e1]; exact Ar3.1) (State.isArrayOf_alike hZ.alike Ar3.2.1) rfl Ar3.2.2 hin3 hat3 (g := (mkF m 24 #[.val (.ref a), .val (.long (0 : Int64)), .second, .val (.ref u), .val (.int (3 : Int32)), .val (.int (0 : Int32)), .unset] [(.int (0 : Int32)), (.ref u)])) rfl rfl (hb hby d7_24) _ k) ?_
  refine Done.st (B := T1.setTop (mkF m 27 #[.val (.ref a), .val (.long (0 : Int64)), .second, .val (.ref u), .val (.int (3 : Int32)), .val (.int (0 : Int32)), .val (.ref ca0)] [])) (fun _ k => XS.astore X1.here hx rfl (hb hby d7_25) rfl rfl (l' := #[.val (.ref a), .val (.long (0 : Int64)), .second, .val (.ref u), .val (.int (3 : Int32)), .val (.int (0 : Int32)), .val (.ref ca0)]) rfl k) ?_
  refine Done.st (B := T1.setTop (mkF m 28 #[.val (.ref a), .val (.long (0 : Int64)), .second, .val (.ref u), .val (.int (3 : Int32)), .val (.int (0 : Int32)), .val (.ref ca0)] [(.long (0 : Int64))])) (fun _ k => XS.lloadN X1.here hx rfl (hb hby d7_27) rfl k) ?_
  refine Done.st (B := T1.setTop (mkF m 30 #[.val (.ref a), .val (.long (0 : Int64)), .second, .val (.ref u), .val (.int (3 : Int32)), .val (.int (0 : Int32)), .val (.ref ca0)] [(.ref ca0), (.long (0 : Int64))])) (fun _ k => XS.aload X1.here hx rfl (hb hby d7_28) rfl rfl k) ?_
  obtain ⟨kk4, hs4, vs4, dv4, FF4, -⟩ := id Y_ca0
  obtain ⟨cl4, Ar4, q4, S4, M4, -⟩ := id FF4
  refine Done.st (B := T1.setTop (mkF m 31 #[.val (.ref a), .val (.long (0 : Int64)), .second, .val (.ref u), .val (.int (3 : Int32)), .val (.int (0 : Int32)), .val (.ref ca0)] [(.int ln0), (.long (0 : Int64))])) (fun _ k => X1.arraylength hx (by rw [e1]; exact Ar4.1) (State.isArrayOf_alike hZ.alike Ar4.2.1) (g := (mkF m 30 #[.val (.ref a), .val (.long (0 : Int64)), .second, .val (.ref u), .val (.int (3 : Int32)), .val (.int (0 : Int32)), .val (.ref ca0)] [(.ref ca0), (.long (0 : Int64))])) rfl rfl (hb hby d7_30) _ (by rw [len_of S4 M4]; exact k)) ?_
  refine Done.st (B := T1.setTop (mkF m 32 #[.val (.ref a), .val (.long (0 : Int64)), .second, .val (.ref u), .val (.int (3 : Int32)), .val (.int (0 : Int32)), .val (.ref ca0)] [(.long (ln0.toInt64)), (.long (0 : Int64))])) (fun _ k => XS.i2l X1.here hx rfl (hb hby d7_31) rfl k) ?_
  refine Done.st (B := T1.setTop (mkF m 33 #[.val (.ref a), .val (.long (0 : Int64)), .second, .val (.ref u), .val (.int (3 : Int32)), .val (.int (0 : Int32)), .val (.ref ca0)] [(.long ((0 : Int64) + (ln0.toInt64)))])) (fun _ k => XS.ladd X1.here hx rfl (hb hby d7_32) rfl k) ?_
  refine Done.st (B := T1.setTop (mkF m 34 #[.val (.ref a), .val (.long ((0 : Int64) + (ln0.toInt64))), .second, .val (.ref u), .val (.int (3 : Int32)), .val (.int (0 : Int32)), .val (.ref ca0)] [])) (fun _ k => XS.lstoreN X1.here hx rfl (hb hby d7_33) rfl (l' := #[.val (.ref a), .val (.long ((0 : Int64) + (ln0.toInt64))), .second, .val (.ref u), .val (.int (3 : Int32)), .val (.int (0 : Int32)), .val (.ref ca0)]) rfl k) ?_
  refine Done.st (B := T1.setTop (mkF m 37 #[.val (.ref a), .val (.long ((0 : Int64) + (ln0.toInt64))), .second, .val (.ref u), .val (.int (3 : Int32)), .val (.int (1 : Int32)), .val (.ref ca0)] [])) (fun _ k => XS.iinc X1.here hx rfl (hb hby d7_34) rfl (l' := #[.val (.ref a), .val (.long ((0 : Int64) + (ln0.toInt64))), .second, .val (.ref u), .val (.int (3 : Int32)), .val (.int (1 : Int32)), .val (.ref ca0)]) rfl k) ?_
  refine Done.st (B := T1.setTop (mkF m 14 #[.val (.ref a), .val (.long ((0 : Int64) + (ln0.toInt64))), .second, .val (.ref u), .val (.int (3 : Int32)), .val (.int (1 : Int32)), .val (.ref ca0)] [])) (fun _ k => XS.goto X1.here hx rfl (pc0 := 37) (pc' := 14) rfl (hb hby d7_37) (by decide) (by decide) k) ?_
  refine Done.st (B := T1.setTop (mkF m 16 #[.val (.ref a), .val (.long ((0 : Int64) + (ln0.toInt64))), .second, .val (.ref u), .val (.int (3 : Int32)), .val (.int (1 : Int32)), .val (.ref ca0)] [(.int (1 : Int32))])) (fun _ k => XS.iload X1.here hx rfl (hb hby d7_14) rfl k) ?_
  refine Done.st (B := T1.setTop (mkF m 18 #[.val (.ref a), .val (.long ((0 : Int64) + (ln0.toInt64))), .second, .val (.ref u), .val (.int (3 : Int32)), .val (.int (1 : Int32)), .val (.ref ca0)] [(.int (3 : Int32)), (.int (1 : Int32))])) (fun _ k => XS.iload X1.here hx rfl (hb hby d7_16) rfl k) ?_
  refine Done.st (B := T1.setTop (mkF m 21 #[.val (.ref a), .val (.long ((0 : Int64) + (ln0.toInt64))), .second, .val (.ref u), .val (.int (3 : Int32)), .val (.int (1 : Int32)), .val (.ref ca0)] [])) (fun _ k => XS.icmpNo X1.here hx rfl (hb hby d7_18) rfl (tlt (by decide : (1 : Int32) < (3 : Int32))).2.1 k) ?_
  refine Done.st (B := T1.setTop (mkF m 22 #[.val (.ref a), .val (.long ((0 : Int64) + (ln0.toInt64))), .second, .val (.ref u), .val (.int (3 : Int32)), .val (.int (1 : Int32)), .val (.ref ca0)] [(.ref u)])) (fun _ k => XS.aloadN X1.here hx rfl (hb hby d7_21) rfl rfl k) ?_
  refine Done.st (B := T1.setTop (mkF m 24 #[.val (.ref a), .val (.long ((0 : Int64) + (ln0.toInt64))), .second, .val (.ref u), .val (.int (3 : Int32)), .val (.int (1 : Int32)), .val (.ref ca0)] [(.int (1 : Int32)), (.ref u)])) (fun _ k => XS.iload X1.here hx rfl (hb hby d7_22) rfl k) ?_
  obtain ⟨cl5, Ar5, q5, S5, M5, H5, G5⟩ := id Vu
  have hin5 : ¬ ((1 : Int32) < 0 ∨ cl5.slots.size ≤ ((1 : Int32)).toNatClampNeg) := inb_of S5 ⟨by decide, by decide⟩
  have hat5 : cl5.slots[((1 : Int32)).toNatClampNeg]? = some (.ref ca1) := Has.at H5 hin5 rfl
  refine Done.st (B := T1.setTop (mkF m 25 #[.val (.ref a), .val (.long ((0 : Int64) + (ln0.toInt64))), .second, .val (.ref u), .val (.int (3 : Int32)), .val (.int (1 : Int32)), .val (.ref ca0)] [(.ref ca1)])) (fun _ k => X1.aaload hx (j := (1 : Int32)) (v := (.ref ca1)) (by rw [e1]; exact Ar5.1) (State.isArrayOf_alike hZ.alike Ar5.2.1) rfl Ar5.2.2 hin5 hat5 (g := (mkF m 24 #[.val (.ref a), .val (.long ((0 : Int64) + (ln0.toInt64))), .second, .val (.ref u), .val (.int (3 : Int32)), .val (.int (1 : Int32)), .val (.ref ca0)] [(.int (1 : Int32)), (.ref u)])) rfl rfl (hb hby d7_24) _ k) ?_
  refine Done.st (B := T1.setTop (mkF m 27 #[.val (.ref a), .val (.long ((0 : Int64) + (ln0.toInt64))), .second, .val (.ref u), .val (.int (3 : Int32)), .val (.int (1 : Int32)), .val (.ref ca1)] [])) (fun _ k => XS.astore X1.here hx rfl (hb hby d7_25) rfl rfl (l' := #[.val (.ref a), .val (.long ((0 : Int64) + (ln0.toInt64))), .second, .val (.ref u), .val (.int (3 : Int32)), .val (.int (1 : Int32)), .val (.ref ca1)]) rfl k) ?_
  refine Done.st (B := T1.setTop (mkF m 28 #[.val (.ref a), .val (.long ((0 : Int64) + (ln0.toInt64))), .second, .val (.ref u), .val (.int (3 : Int32)), .val (.int (1 : Int32)), .val (.ref ca1)] [(.long ((0 : Int64) + (ln0.toInt64)))])) (fun _ k => XS.lloadN X1.here hx rfl (hb hby d7_27) rfl k) ?_
  refine Done.st (B := T1.setTop (mkF m 30 #[.val (.ref a), .val (.long ((0 : Int64) + (ln0.toInt64))), .second, .val (.ref u), .val (.int (3 : Int32)), .val (.int (1 : Int32)), .val (.ref ca1)] [(.ref ca1), (.long ((0 : Int64) + (ln0.toInt64)))])) (fun _ k => XS.aload X1.here hx rfl (hb hby d7_28) rfl rfl k) ?_
  obtain ⟨kk6, hs6, vs6, dv6, FF6, -⟩ := id Y_ca1
  obtain ⟨cl6, Ar6, q6, S6, M6, -⟩ := id FF6
  refine Done.st (B := T1.setTop (mkF m 31 #[.val (.ref a), .val (.long ((0 : Int64) + (ln0.toInt64))), .second, .val (.ref u), .val (.int (3 : Int32)), .val (.int (1 : Int32)), .val (.ref ca1)] [(.int ln1), (.long ((0 : Int64) + (ln0.toInt64)))])) (fun _ k => X1.arraylength hx (by rw [e1]; exact Ar6.1) (State.isArrayOf_alike hZ.alike Ar6.2.1) (g := (mkF m 30 #[.val (.ref a), .val (.long ((0 : Int64) + (ln0.toInt64))), .second, .val (.ref u), .val (.int (3 : Int32)), .val (.int (1 : Int32)), .val (.ref ca1)] [(.ref ca1), (.long ((0 : Int64) + (ln0.toInt64)))])) rfl rfl (hb hby d7_30) _ (by rw [len_of S6 M6]; exact k)) ?_
  refine Done.st (B := T1.setTop (mkF m 32 #[.val (.ref a), .val (.long ((0 : Int64) + (ln0.toInt64))), .second, .val (.ref u), .val (.int (3 : Int32)), .val (.int (1 : Int32)), .val (.ref ca1)] [(.long (ln1.toInt64)), (.long ((0 : Int64) + (ln0.toInt64)))])) (fun _ k => XS.i2l X1.here hx rfl (hb hby d7_31) rfl k) ?_
  refine Done.st (B := T1.setTop (mkF m 33 #[.val (.ref a), .val (.long ((0 : Int64) + (ln0.toInt64))), .second, .val (.ref u), .val (.int (3 : Int32)), .val (.int (1 : Int32)), .val (.ref ca1)] [(.long (((0 : Int64) + (ln0.toInt64)) + (ln1.toInt64)))])) (fun _ k => XS.ladd X1.here hx rfl (hb hby d7_32) rfl k) ?_
  refine Done.st (B := T1.setTop (mkF m 34 #[.val (.ref a), .val (.long (((0 : Int64) + (ln0.toInt64)) + (ln1.toInt64))), .second, .val (.ref u), .val (.int (3 : Int32)), .val (.int (1 : Int32)), .val (.ref ca1)] [])) (fun _ k => XS.lstoreN X1.here hx rfl (hb hby d7_33) rfl (l' := #[.val (.ref a), .val (.long (((0 : Int64) + (ln0.toInt64)) + (ln1.toInt64))), .second, .val (.ref u), .val (.int (3 : Int32)), .val (.int (1 : Int32)), .val (.ref ca1)]) rfl k) ?_
  refine Done.st (B := T1.setTop (mkF m 37 #[.val (.ref a), .val (.long (((0 : Int64) + (ln0.toInt64)) + (ln1.toInt64))), .second, .val (.ref u), .val (.int (3 : Int32)), .val (.int (2 : Int32)), .val (.ref ca1)] [])) (fun _ k => XS.iinc X1.here hx rfl (hb hby d7_34) rfl (l' := #[.val (.ref a), .val (.long (((0 : Int64) + (ln0.toInt64)) + (ln1.toInt64))), .second, .val (.ref u), .val (.int (3 : Int32)), .val (.int (2 : Int32)), .val (.ref ca1)]) rfl k) ?_
  refine Done.st (B := T1.setTop (mkF m 14 #[.val (.ref a), .val (.long (((0 : Int64) + (ln0.toInt64)) + (ln1.toInt64))), .second, .val (.ref u), .val (.int (3 : Int32)), .val (.int (2 : Int32)), .val (.ref ca1)] [])) (fun _ k => XS.goto X1.here hx rfl (pc0 := 37) (pc' := 14) rfl (hb hby d7_37) (by decide) (by decide) k) ?_
  refine Done.st (B := T1.setTop (mkF m 16 #[.val (.ref a), .val (.long (((0 : Int64) + (ln0.toInt64)) + (ln1.toInt64))), .second, .val (.ref u), .val (.int (3 : Int32)), .val (.int (2 : Int32)), .val (.ref ca1)] [(.int (2 : Int32))])) (fun _ k => XS.iload X1.here hx rfl (hb hby d7_14) rfl k) ?_
  refine Done.st (B := T1.setTop (mkF m 18 #[.val (.ref a), .val (.long (((0 : Int64) + (ln0.toInt64)) + (ln1.toInt64))), .second, .val (.ref u), .val (.int (3 : Int32)), .val (.int (2 : Int32)), .val (.ref ca1)] [(.int (3 : Int32)), (.int (2 : Int32))])) (fun _ k => XS.iload X1.here hx rfl (hb hby d7_16) rfl k) ?_
  refine Done.st (B := T1.setTop (mkF m 21 #[.val (.ref a), .val (.long (((0 : Int64) + (ln0.toInt64)) + (ln1.toInt64))), .second, .val (.ref u), .val (.int (3 : Int32)), .val (.int (2 : Int32)), .val (.ref ca1)] [])) (fun _ k => XS.icmpNo X1.here hx rfl (hb hby d7_18) rfl (tlt (by decide : (2 : Int32) < (3 : Int32))).2.1 k) ?_
  refine Done.st (B := T1.setTop (mkF m 22 #[.val (.ref a), .val (.long (((0 : Int64) + (ln0.toInt64)) + (ln1.toInt64))), .second, .val (.ref u), .val (.int (3 : Int32)), .val (.int (2 : Int32)), .val (.ref ca1)] [(.ref u)])) (fun _ k => XS.aloadN X1.here hx rfl (hb hby d7_21) rfl rfl k) ?_
  refine Done.st (B := T1.setTop (mkF m 24 #[.val (.ref a), .val (.long (((0 : Int64) + (ln0.toInt64)) + (ln1.toInt64))), .second, .val (.ref u), .val (.int (3 : Int32)), .val (.int (2 : Int32)), .val (.ref ca1)] [(.int (2 : Int32)), (.ref u)])) (fun _ k => XS.iload X1.here hx rfl (hb hby d7_22) rfl k) ?_
  obtain ⟨cl7, Ar7, q7, S7, M7, H7, G7⟩ := id Vu
  have hin7 : ¬ ((2 : Int32) < 0 ∨ cl7.slots.size ≤ ((2 : Int32)).toNatClampNeg) := inb_of S7 ⟨by decide, by decide⟩
  have hat7 : cl7.slots[((2 : Int32)).toNatClampNeg]? = some (.ref ca2) := Has.at H7 hin7 rfl
  refine Done.st (B := T1.setTop (mkF m 25 #[.val (.ref a), .val (.long (((0 : Int64) + (ln0.toInt64)) + (ln1.toInt64))), .second, .val (.ref u), .val (.int (3 : Int32)), .val (.int (2 : Int32)), .val (.ref ca1)] [(.ref ca2)])) (fun _ k => X1.aaload hx (j := (2 : Int32)) (v := (.ref ca2)) (by rw [e1]; exact Ar7.1) (State.isArrayOf_alike hZ.alike Ar7.2.1) rfl Ar7.2.2 hin7 hat7 (g := (mkF m 24 #[.val (.ref a), .val (.long (((0 : Int64) + (ln0.toInt64)) + (ln1.toInt64))), .second, .val (.ref u), .val (.int (3 : Int32)), .val (.int (2 : Int32)), .val (.ref ca1)] [(.int (2 : Int32)), (.ref u)])) rfl rfl (hb hby d7_24) _ k) ?_
  refine Done.st (B := T1.setTop (mkF m 27 #[.val (.ref a), .val (.long (((0 : Int64) + (ln0.toInt64)) + (ln1.toInt64))), .second, .val (.ref u), .val (.int (3 : Int32)), .val (.int (2 : Int32)), .val (.ref ca2)] [])) (fun _ k => XS.astore X1.here hx rfl (hb hby d7_25) rfl rfl (l' := #[.val (.ref a), .val (.long (((0 : Int64) + (ln0.toInt64)) + (ln1.toInt64))), .second, .val (.ref u), .val (.int (3 : Int32)), .val (.int (2 : Int32)), .val (.ref ca2)]) rfl k) ?_
  refine Done.st (B := T1.setTop (mkF m 28 #[.val (.ref a), .val (.long (((0 : Int64) + (ln0.toInt64)) + (ln1.toInt64))), .second, .val (.ref u), .val (.int (3 : Int32)), .val (.int (2 : Int32)), .val (.ref ca2)] [(.long (((0 : Int64) + (ln0.toInt64)) + (ln1.toInt64)))])) (fun _ k => XS.lloadN X1.here hx rfl (hb hby d7_27) rfl k) ?_
  refine Done.st (B := T1.setTop (mkF m 30 #[.val (.ref a), .val (.long (((0 : Int64) + (ln0.toInt64)) + (ln1.toInt64))), .second, .val (.ref u), .val (.int (3 : Int32)), .val (.int (2 : Int32)), .val (.ref ca2)] [(.ref ca2), (.long (((0 : Int64) + (ln0.toInt64)) + (ln1.toInt64)))])) (fun _ k => XS.aload X1.here hx rfl (hb hby d7_28) rfl rfl k) ?_
  obtain ⟨kk8, hs8, vs8, dv8, FF8, -⟩ := id Y_ca2
  obtain ⟨cl8, Ar8, q8, S8, M8, -⟩ := id FF8
  refine Done.st (B := T1.setTop (mkF m 31 #[.val (.ref a), .val (.long (((0 : Int64) + (ln0.toInt64)) + (ln1.toInt64))), .second, .val (.ref u), .val (.int (3 : Int32)), .val (.int (2 : Int32)), .val (.ref ca2)] [(.int ln2), (.long (((0 : Int64) + (ln0.toInt64)) + (ln1.toInt64)))])) (fun _ k => X1.arraylength hx (by rw [e1]; exact Ar8.1) (State.isArrayOf_alike hZ.alike Ar8.2.1) (g := (mkF m 30 #[.val (.ref a), .val (.long (((0 : Int64) + (ln0.toInt64)) + (ln1.toInt64))), .second, .val (.ref u), .val (.int (3 : Int32)), .val (.int (2 : Int32)), .val (.ref ca2)] [(.ref ca2), (.long (((0 : Int64) + (ln0.toInt64)) + (ln1.toInt64)))])) rfl rfl (hb hby d7_30) _ (by rw [len_of S8 M8]; exact k)) ?_
  refine Done.st (B := T1.setTop (mkF m 32 #[.val (.ref a), .val (.long (((0 : Int64) + (ln0.toInt64)) + (ln1.toInt64))), .second, .val (.ref u), .val (.int (3 : Int32)), .val (.int (2 : Int32)), .val (.ref ca2)] [(.long (ln2.toInt64)), (.long (((0 : Int64) + (ln0.toInt64)) + (ln1.toInt64)))])) (fun _ k => XS.i2l X1.here hx rfl (hb hby d7_31) rfl k) ?_
  refine Done.st (B := T1.setTop (mkF m 33 #[.val (.ref a), .val (.long (((0 : Int64) + (ln0.toInt64)) + (ln1.toInt64))), .second, .val (.ref u), .val (.int (3 : Int32)), .val (.int (2 : Int32)), .val (.ref ca2)] [(.long ((((0 : Int64) + (ln0.toInt64)) + (ln1.toInt64)) + (ln2.toInt64)))])) (fun _ k => XS.ladd X1.here hx rfl (hb hby d7_32) rfl k) ?_
  refine Done.st (B := T1.setTop (mkF m 34 #[.val (.ref a), .val (.long ((((0 : Int64) + (ln0.toInt64)) + (ln1.toInt64)) + (ln2.toInt64))), .second, .val (.ref u), .val (.int (3 : Int32)), .val (.int (2 : Int32)), .val (.ref ca2)] [])) (fun _ k => XS.lstoreN X1.here hx rfl (hb hby d7_33) rfl (l' := #[.val (.ref a), .val (.long ((((0 : Int64) + (ln0.toInt64)) + (ln1.toInt64)) + (ln2.toInt64))), .second, .val (.ref u), .val (.int (3 : Int32)), .val (.int (2 : Int32)), .val (.ref ca2)]) rfl k) ?_
  refine Done.st (B := T1.setTop (mkF m 37 #[.val (.ref a), .val (.long ((((0 : Int64) + (ln0.toInt64)) + (ln1.toInt64)) + (ln2.toInt64))), .second, .val (.ref u), .val (.int (3 : Int32)), .val (.int (3 : Int32)), .val (.ref ca2)] [])) (fun _ k => XS.iinc X1.here hx rfl (hb hby d7_34) rfl (l' := #[.val (.ref a), .val (.long ((((0 : Int64) + (ln0.toInt64)) + (ln1.toInt64)) + (ln2.toInt64))), .second, .val (.ref u), .val (.int (3 : Int32)), .val (.int (3 : Int32)), .val (.ref ca2)]) rfl k) ?_
  refine Done.st (B := T1.setTop (mkF m 14 #[.val (.ref a), .val (.long ((((0 : Int64) + (ln0.toInt64)) + (ln1.toInt64)) + (ln2.toInt64))), .second, .val (.ref u), .val (.int (3 : Int32)), .val (.int (3 : Int32)), .val (.ref ca2)] [])) (fun _ k => XS.goto X1.here hx rfl (pc0 := 37) (pc' := 14) rfl (hb hby d7_37) (by decide) (by decide) k) ?_
  refine Done.st (B := T1.setTop (mkF m 16 #[.val (.ref a), .val (.long ((((0 : Int64) + (ln0.toInt64)) + (ln1.toInt64)) + (ln2.toInt64))), .second, .val (.ref u), .val (.int (3 : Int32)), .val (.int (3 : Int32)), .val (.ref ca2)] [(.int (3 : Int32))])) (fun _ k => XS.iload X1.here hx rfl (hb hby d7_14) rfl k) ?_
  refine Done.st (B := T1.setTop (mkF m 18 #[.val (.ref a), .val (.long ((((0 : Int64) + (ln0.toInt64)) + (ln1.toInt64)) + (ln2.toInt64))), .second, .val (.ref u), .val (.int (3 : Int32)), .val (.int (3 : Int32)), .val (.ref ca2)] [(.int (3 : Int32)), (.int (3 : Int32))])) (fun _ k => XS.iload X1.here hx rfl (hb hby d7_16) rfl k) ?_
  refine Done.st (B := T1.setTop (mkF m 40 #[.val (.ref a), .val (.long ((((0 : Int64) + (ln0.toInt64)) + (ln1.toInt64)) + (ln2.toInt64))), .second, .val (.ref u), .val (.int (3 : Int32)), .val (.int (3 : Int32)), .val (.ref ca2)] [])) (fun _ k => XS.icmpYes X1.here hx rfl (pc0 := 18) (pc' := 40) rfl (hb hby d7_18) rfl (flt (by decide : ¬ ((3 : Int32) < (3 : Int32)))).2.1 (by decide) (by decide) k) ?_
  refine Done.st (B := T1.setTop (mkF m 41 #[.val (.ref a), .val (.long ((((0 : Int64) + (ln0.toInt64)) + (ln1.toInt64)) + (ln2.toInt64))), .second, .val (.ref u), .val (.int (3 : Int32)), .val (.int (3 : Int32)), .val (.ref ca2)] [(.long ((((0 : Int64) + (ln0.toInt64)) + (ln1.toInt64)) + (ln2.toInt64)))])) (fun _ k => XS.lloadN X1.here hx rfl (hb hby d7_40) rfl k) ?_
  obtain ⟨fs, hr, hrun, hended, hW, hsame⟩ := X1.leave (v := some (.long ((((0 : Int64) + (ln0.toInt64)) + (ln1.toInt64)) + (ln2.toInt64)))) (hlocks := hlk) (fun h => by rw [Bd.returns] at h; cases h)
  refine Done.fin (retJ X1 hx Bd.returns (hb hby d7_41) hr) hrun hended ⟨_, _, rfl, ?_, ⟨_, rfl⟩, hW, hsame.mono (by decide) (by decide)⟩
  show QrmIC_3 Z a u ku ca0 ca1 ca2 ln0 ln1 ln2 h0 n0 _ T1.heap _
  rw [e1]
  exact ⟨rfl, N0, rfl⟩
theorem ef_rmSI_4 (m : MethodId) (a : Addr) (li : Addr) : entryFrame m #[(.ref a), (.ref li)] 3 = mkF m 0 #[.val (.ref a), .val (.ref li), .unset] [] := by first | (simp [entryFrame, mkF, argsToLocals, Value.category]; done) | rfl
def QrmSI_4 (Z : State) (a : Addr) (li : Addr) (mc : Int32) (t : Addr) (kt : ClassId) (el0 : Addr) (el1 : Addr) (el2 : Addr) (el3 : Addr) (ln0 : Int32) (ln1 : Int32) (ln2 : Int32) (ln3 : Int32) (h0 : Heap) (n0 : Nat) (v : Option Value) (h : Heap) (L : List Loc) : Prop := ∃ (u : Addr) (ku : ClassId) (ca0 : Addr) (ca1 : Addr) (ca2 : Addr) (ca3 : Addr), v = none ∧ Fr n0 L ∧ Keep h0 h [a] ∧ h0.size ≤ u ∧ Exa Z h a "com/example/percurso/percurso/suite/Suite" ∧ Fld Z h a "com/example/percurso/percurso/suite/Suite" "tests" "[[I" (.ref u) ∧ Arv Z h u ku (.array .int) (4 : Int32) [(.ref ca0), (.ref ca1), (.ref ca2), (.ref ca3)] .null ∧ IA Z h ca0 ln0 ∧ IA Z h ca1 ln1 ∧ IA Z h ca2 ln2 ∧ IA Z h ca3 ln3
def PrmSI_4 (s : State) (Z : State) (a : Addr) (li : Addr) (mc : Int32) (t : Addr) (kt : ClassId) (el0 : Addr) (el1 : Addr) (el2 : Addr) (el3 : Addr) (ln0 : Int32) (ln1 : Int32) (ln2 : Int32) (ln3 : Int32) (h0 : Heap) (n0 : Nat) : State → Outcome → Prop := fun U' o => ∃ v L, o = .returned v ∧ QrmSI_4 Z a li mc t kt el0 el1 el2 el3 ln0 ln1 ln2 ln3 h0 n0 v U'.heap L ∧ FrameEnd s o U' L ({ frames := 3, cells := 5, slots := 32, locals := 42 } : Room).cells ({ frames := 3, cells := 5, slots := 32, locals := 42 } : Room).slots
set_option maxRecDepth 65536 in
set_option maxHeartbeats 40000000 in
theorem rmSI_4 (l : Launch) (Z : State) (a0 : Array Value) (hw : ∀ d ∈ tables_1, d.before a0 Z = true) (ws : List Jvm.Cond) (a : Addr) (li : Addr) (mc : Int32) (t : Addr) (kt : ClassId) (el0 : Addr) (el1 : Addr) (el2 : Addr) (el3 : Addr) (ln0 : Int32) (ln1 : Int32) (ln2 : Int32) (ln3 : Int32) (h0 : Heap) (n0 : Nat) (Z0 : n0 ≤ h0.size) (Fa : Fld Z h0 a "com/example/percurso/percurso/suite/Suite" "tests" "[[I" .null) (Es : Exa Z h0 a "com/example/percurso/percurso/suite/Suite") (gs : n0 ≤ a) (El : Exa Z h0 li "java/util/ArrayList") (Fm : Fld Z h0 li "java/util/AbstractList" "modCount" "I" (.int mc)) (Fe : Fld Z h0 li "java/util/ArrayList" "elementData" "[Ljava/lang/Object;" (.ref t)) (Fs : Fld Z h0 li "java/util/ArrayList" "size" "I" (.int (4 : Int32))) (V_t : Arv Z h0 t kt (.object "java/lang/Object") (10 : Int32) [(.ref el0), (.ref el1), (.ref el2), (.ref el3), .null, .null, .null, .null, .null, .null] .null) (Y_el0 : IA Z h0 el0 ln0) (h_ln0 : 0 ≤ ln0.toInt ∧ ln0.toInt ≤ 7) (Y_el1 : IA Z h0 el1 ln1) (h_ln1 : 0 ≤ ln1.toInt ∧ ln1.toInt ≤ 7) (Y_el2 : IA Z h0 el2 ln2) (h_ln2 : 0 ≤ ln2.toInt ∧ ln2.toInt ≤ 7) (Y_el3 : IA Z h0 el3 ln3) (h_ln3 : 0 ≤ ln3.toInt ∧ ln3.toInt ≤ 7) (nal : a ≠ li) (nat : a ≠ t) (na_el0 : a ≠ el0) (na_el1 : a ≠ el1) (na_el2 : a ≠ el2) (na_el3 : a ≠ el3) :
    MetFree l (⟨"com/example/percurso/percurso/suite/Suite", "<init>", "(Ljava/util/List;)V"⟩ : MethodName) (head1 (Jvm.Cond.code (⟨"com/example/percurso/percurso/suite/Suite", "<init>", "(Ljava/util/List;)V"⟩ : MethodName) prog_192_method_1_code 3 none :: ws) ({ frames := 3, cells := 5, slots := 32, locals := 42 } : Room)) (fun aa U => aa = #[(.ref a), (.ref li)] ∧ Z.Warmed39 U.vm ∧ U.heap = h0) (fun _ _ _ _ _ => True) (fun _ U o U' => ∃ v L, o = .returned v ∧ QrmSI_4 Z a li mc t kt el0 el1 el2 el3 ln0 ln1 ln2 ln3 h0 n0 v U'.heap L ∧ FrameEnd U o U' L ({ frames := 3, cells := 5, slots := 32, locals := 42 } : Room).cells ({ frames := 3, cells := 5, slots := 32, locals := 42 } : Room).slots) := by
  refine MetFree.of_bodySF (plainFor_of_name pn_5) hisR ?_
  intro p e s m args below meth c s₁ Bd hml0 hP hK
  obtain ⟨rfl, hZ, hh⟩ := hP
  have hx := Bd.exec
  have hlk : meth.locks = false := by first | exact BodyLoose.notSynchronized Bd | exact Body.notSynchronized Bd
  have hby := Bd.bytes
  have hml : c.maxLocals = 3 := hml0
  have hown : s.vm.findClass "com/example/percurso/percurso/suite/Suite" = some m.cls := findClass_of_methodNamed Bd.named
  have hnm := (name_of_methodNamed Bd.named Bd.method).1
  have X0 : Stand p l e ({ frames := 3, cells := 5, slots := 32, locals := 42 } : Room) s m #[(.ref a), (.ref li)] below meth c s₁ [] 0 0 := Stand.of_body Bd
  have e0 : s₁.heap = h0 := by rw [← hh, Bd.state]; rfl
  have N0 := Fr.nil n0
  show Done p e below (PrmSI_4 s Z a li mc t kt el0 el1 el2 el3 ln0 ln1 ln2 ln3 h0 n0) (s₁.setTop (entryFrame m #[(.ref a), (.ref li)] 3))
  refine Done.st (B := s₁.setTop (mkF m 0 #[.val (.ref a), .val (.ref li), .unset] [])) (fun _ k => castTop (ef_rmSI_4 m a li) k) ?_
  have X_el0 : Exa Z h0 el0 "[I" := by obtain ⟨_, _, _, _, _, z⟩ := Y_el0; exact z
  have X_el1 : Exa Z h0 el1 "[I" := by obtain ⟨_, _, _, _, _, z⟩ := Y_el1; exact z
  have X_el2 : Exa Z h0 el2 "[I" := by obtain ⟨_, _, _, _, _, z⟩ := Y_el2; exact z
  have X_el3 : Exa Z h0 el3 "[I" := by obtain ⟨_, _, _, _, _, z⟩ := Y_el3; exact z
  refine Done.st (B := s₁.setTop (mkF m 1 #[.val (.ref a), .val (.ref li), .unset] [(.ref a)])) (fun _ k => XS.aloadN X0.here hx rfl (hb hby d5_0) rfl rfl k) ?_
  obtain ⟨T1, X1, e1, st1⟩ := initO X0 hx hZ hown (hw _ (List.mem_of_getElem? (i := 33) rfl)) (hw _ (List.mem_of_getElem? (i := 20) rfl)) (hw _ (List.mem_of_getElem? (i := 21) rfl)) e0 (g := (mkF m 1 #[.val (.ref a), .val (.ref li), .unset] [(.ref a)])) rfl (by rw [hml]; rfl) rfl (hb hby d5_1) (by decide) (W := 0) (by show 2 * 0 + _ ≤ _; exact Nat.le_of_eq rfl) (by decide)
  refine Done.st (B := T1.setTop (mkF m 4 #[.val (.ref a), .val (.ref li), .unset] [])) (fun _ k => st1 _ k) ?_
  refine Done.st (B := T1.setTop (mkF m 5 #[.val (.ref a), .val (.ref li), .unset] [(.ref a)])) (fun _ k => XS.aloadN X1.here hx rfl (hb hby d5_4) rfl rfl k) ?_
  refine Done.st (B := T1.setTop (mkF m 6 #[.val (.ref a), .val (.ref li), .unset] [(.ref li), (.ref a)])) (fun _ k => XS.aloadN X1.here hx rfl (hb hby d5_5) rfl rfl k) ?_
  obtain ⟨cq2, kq2, q2a, q2b, q2c⟩ := isOf hZ e1 El
  obtain ⟨_, _, ⟨T2, L2, k2, n2⟩, -, X2, ⟨Lc2, hQ2, l2, y2, z2⟩, st2⟩ := X1.interfaceBack hx (xi := (⟨"java/util/List", "size", "()I"⟩ : MethodName)) (y := (⟨"java/util/ArrayList", "size", "()I"⟩ : MethodName)) hown (mvT hZ (hw _ (List.mem_of_getElem? (i := 34) rfl))) (mvT hZ (hw _ (List.mem_of_getElem? (i := 35) rfl))) (mvT hZ (hw _ (List.mem_of_getElem? (i := 36) rfl))) (mvT hZ (hw _ (List.mem_of_getElem? (i := 37) rfl))) (mvT hZ (hw _ (List.mem_of_getElem? (i := 38) rfl))) (mvT hZ (hw _ (List.mem_of_getElem? (i := 39) rfl))) (mvT hZ (hw _ (List.mem_of_getElem? (i := 40) rfl))) (mvT hZ (hw _ (List.mem_of_getElem? (i := 41) rfl))) (by decide) (backOf (W := 1) (rm6 l Z a0 hw [] li (4 : Int32) h0 n0 Z0 Fs) hZ (hw _ (List.mem_of_getElem? (i := 42) rfl)) (hw _ (List.mem_of_getElem? (i := 3) rfl)) (by decide) (by decide)) q2a q2b q2c (g := (mkF m 6 #[.val (.ref a), .val (.ref li), .unset] [(.ref li), (.ref a)])) rfl (by rw [hml]; rfl) (Steps.refl _) (argsL := []) (rest := [(.ref a)]) (lenOf pd_7 rfl) rfl (by show 2 * 0 + _ ≤ _; exact Nat.le_of_eq rfl) (hb hby d5_6) (fun _ _ => ⟨rfl, e1, (by decide : 0 + 0 ≤ _), (by decide : 0 + 0 ≤ _)⟩)
  dsimp only [Pt.U, Pt.locs, Pt.cells, Pt.slots] at X2 l2 y2 z2 st2 hQ2
  subst l2 y2 z2
  obtain ⟨rfl, N2q, e2⟩ := hQ2
  have N2 := Fr.app N0 N2q
  refine Done.st (B := T2.setTop (mkF m 11 #[.val (.ref a), .val (.ref li), .unset] [(.int (4 : Int32)), (.ref a)])) (fun _ k => st2.trans k) ?_
  obtain ⟨T3, h3, k3, X3, e3, E3, A3, Ex3, O3, st3⟩ := newRA X2 hx hZ hown (ty := .int) (C := "[I") rfl (hw _ (List.mem_of_getElem? (i := 45) rfl)) (hw _ (List.mem_of_getElem? (i := 46) rfl)) e2 (g := (mkF m 11 #[.val (.ref a), .val (.ref li), .unset] [(.int (4 : Int32)), (.ref a)])) rfl (hb hby d5_11) rfl (by decide) (cap := 4) (by decide) (by decide) (by decide) (by decide) (ad := "[[I") rfl
  obtain ⟨b3, g3⟩ : ∃ z, z = h0.size := ⟨_, rfl⟩
  rw [← g3] at A3 Ex3 st3
  have ne_li_b3 : li ≠ b3 := Nat.ne_of_lt (Nat.lt_of_lt_of_le El.lt (Nat.le_of_eq g3.symm))
  have ne_a_b3 : a ≠ b3 := Nat.ne_of_lt (Nat.lt_of_lt_of_le Fa.lt (Nat.le_of_eq g3.symm))
  have ne_t_b3 : t ≠ b3 := Nat.ne_of_lt (Nat.lt_of_lt_of_le V_t.lt (Nat.le_of_eq g3.symm))
  have ne_el0_b3 : el0 ≠ b3 := Nat.ne_of_lt (Nat.lt_of_lt_of_le Y_el0.lt (Nat.le_of_eq g3.symm))
  have ne_el1_b3 : el1 ≠ b3 := Nat.ne_of_lt (Nat.lt_of_lt_of_le Y_el1.lt (Nat.le_of_eq g3.symm))
  have ne_el2_b3 : el2 ≠ b3 := Nat.ne_of_lt (Nat.lt_of_lt_of_le Y_el2.lt (Nat.le_of_eq g3.symm))
  have ne_el3_b3 : el3 ≠ b3 := Nat.ne_of_lt (Nat.lt_of_lt_of_le Y_el3.lt (Nat.le_of_eq g3.symm))
  have ge_b3 : n0 ≤ b3 := Nat.le_trans Z0 (Nat.le_of_eq g3.symm)
  have sz_b3 : h0.size ≤ b3 := Nat.le_trans ((Keep.refl h0 [a])).1 (Nat.le_of_eq g3.symm)
  have Z3 : n0 ≤ h3.size := Nat.le_trans Z0 E3.1
  have V3 : Arv Z h3 b3 k3 (.array .int) (4 : Int32) [.null, .null, .null, .null] .null := (Arv.new A3 (by decide)).pad (pad_rep [] .null 4)
  have KK3 : Keep h0 h3 [a] := ((Keep.refl h0 [a])).ext E3
  refine Done.st (B := T3.setTop (mkF m 14 #[.val (.ref a), .val (.ref li), .unset] [(.ref b3), (.ref a)])) (fun _ k => st3 _ k) ?_
  have c4 := (Exa.ext E3 Es)
  have c5 := (Fld.ext E3 Fa)
  obtain ⟨T6, h6, X6, e6, W6, st6⟩ := putF X3 hx hZ hown (host := "") (Or.inl (hw _ (List.mem_of_getElem? (i := 47) rfl))) Via.refl e3 c5 c4 (Or.inr ⟨(hw _ (List.mem_of_getElem? (i := 48) rfl)), rfl, hnm⟩) (hw _ (List.mem_of_getElem? (i := 28) rfl)) (ty := (.array (.array .int))) (by decide) rfl rfl (g := (mkF m 14 #[.val (.ref a), .val (.ref li), .unset] [(.ref b3), (.ref a)])) rfl rfl (hb hby d5_14)
  have F6 := Fld.same W6 c5
  have N6 := Fr.snoc X6 N2 gs
  have Z6 : n0 ≤ h6.size := Nat.le_trans Z3 (Keep.of_wr W6).1
  have KK6 : Keep h0 h6 [a] := (KK3).wr W6 (Or.inl (List.mem_of_getElem? (i := 0) rfl))
  refine Done.st (B := T6.setTop (mkF m 17 #[.val (.ref a), .val (.ref li), .unset] [])) (fun _ k => st6 _ k) ?_
  refine Done.st (B := T6.setTop (mkF m 18 #[.val (.ref a), .val (.ref li), .unset] [(.int (0 : Int32))])) (fun _ k => XS.iconst X6.here hx rfl (hb hby d5_17) k) ?_
  refine Done.st (B := T6.setTop (mkF m 19 #[.val (.ref a), .val (.ref li), .val (.int (0 : Int32))] [])) (fun _ k => XS.istoreN X6.here hx rfl (hb hby d5_18) rfl (l' := #[.val (.ref a), .val (.ref li), .val (.int (0 : Int32))]) rfl k) ?_
  refine Done.st (B := T6.setTop (mkF m 20 #[.val (.ref a), .val (.ref li), .val (.int (0 : Int32))] [(.int (0 : Int32))])) (fun _ k => XS.iloadN X6.here hx rfl (hb hby d5_19) rfl k) ?_
  refine Done.st (B := T6.setTop (mkF m 21 #[.val (.ref a), .val (.ref li), .val (.int (0 : Int32))] [(.ref a), (.int (0 : Int32))])) (fun _ k => XS.aloadN X6.here hx rfl (hb hby d5_20) rfl rfl k) ?_
  obtain ⟨T7, X7, e7, st7⟩ := getF X6 hx hZ hown (host := "") (Or.inl (hw _ (List.mem_of_getElem? (i := 47) rfl))) Via.refl e6 F6 (g := (mkF m 21 #[.val (.ref a), .val (.ref li), .val (.int (0 : Int32))] [(.ref a), (.int (0 : Int32))])) rfl rfl (hb hby d5_21)
  refine Done.st (B := T7.setTop (mkF m 24 #[.val (.ref a), .val (.ref li), .val (.int (0 : Int32))] [(.ref b3), (.int (0 : Int32))])) (fun _ k => st7 _ k) ?_
  have c9 := (V3.other W6 (Ne.symm ne_a_b3))
  obtain ⟨cl8, Ar8, q8, S8, M8, -⟩ := id c9
  refine Done.st (B := T7.setTop (mkF m 25 #[.val (.ref a), .val (.ref li), .val (.int (0 : Int32))] [(.int (4 : Int32)), (.int (0 : Int32))])) (fun _ k => X7.arraylength hx (by rw [e7]; exact Ar8.1) (State.isArrayOf_alike hZ.alike Ar8.2.1) (g := (mkF m 24 #[.val (.ref a), .val (.ref li), .val (.int (0 : Int32))] [(.ref b3), (.int (0 : Int32))])) rfl rfl (hb hby d5_24) _ (by rw [len_of S8 M8]; exact k)) ?_
  refine Done.st (B := T7.setTop (mkF m 28 #[.val (.ref a), .val (.ref li), .val (.int (0 : Int32))] [])) (fun _ k => XS.icmpNo X7.here hx rfl (hb hby d5_25) rfl (tlt (by decide : (0 : Int32) < (4 : Int32))).2.1 k) ?_
  refine Done.st (B := T7.setTop (mkF m 29 #[.val (.ref a), .val (.ref li), .val (.int (0 : Int32))] [(.ref a)])) (fun _ k => XS.aloadN X7.here hx rfl (hb hby d5_28) rfl rfl k) ?_
  obtain ⟨T10, X10, e10, st10⟩ := getF X7 hx hZ hown (host := "") (Or.inl (hw _ (List.mem_of_getElem? (i := 47) rfl))) Via.refl e7 F6 (g := (mkF m 29 #[.val (.ref a), .val (.ref li), .val (.int (0 : Int32))] [(.ref a)])) rfl rfl (hb hby d5_29)
  refine Done.st (B := T10.setTop (mkF m 32 #[.val (.ref a), .val (.ref li), .val (.int (0 : Int32))] [(.ref b3)])) (fun _ k => st10 _ k) ?_
  refine Done.st (B := T10.setTop (mkF m 33 #[.val (.ref a), .val (.ref li), .val (.int (0 : Int32))] [(.int (0 : Int32)), (.ref b3)])) (fun _ k => XS.iloadN X10.here hx rfl (hb hby d5_32) rfl k) ?_
  refine Done.st (B := T10.setTop (mkF m 34 #[.val (.ref a), .val (.ref li), .val (.int (0 : Int32))] [(.ref li), (.int (0 : Int32)), (.ref b3)])) (fun _ k => XS.aloadN X10.here hx rfl (hb hby d5_33) rfl rfl k) ?_
  refine Done.st (B := T10.setTop (mkF m 35 #[.val (.ref a), .val (.ref li), .val (.int (0 : Int32))] [(.int (0 : Int32)), (.ref li), (.int (0 : Int32)), (.ref b3)])) (fun _ k => XS.iloadN X10.here hx rfl (hb hby d5_34) rfl k) ?_
  have c11 := (Fld.other W6 (Fld.ext E3 Fe) (Or.inl (Ne.symm nal)))
  have c12 := ((V_t.ext E3).other W6 (Ne.symm nat))
  have c13 := (Fld.other W6 (Fld.ext E3 Fs) (Or.inl (Ne.symm nal)))
  have c14 := (Exa.wr W6 (Exa.ext E3 El))
  obtain ⟨cq15, kq15, q15a, q15b, q15c⟩ := isOf hZ e10 c14
  obtain ⟨_, _, ⟨T15, L15, k15, n15⟩, -, X15, ⟨Lc15, hQ15, l15, y15, z15⟩, st15⟩ := X10.interfaceBack hx (xi := (⟨"java/util/List", "get", "(I)Ljava/lang/Object;"⟩ : MethodName)) (y := (⟨"java/util/ArrayList", "get", "(I)Ljava/lang/Object;"⟩ : MethodName)) hown (mvT hZ (hw _ (List.mem_of_getElem? (i := 83) rfl))) (mvT hZ (hw _ (List.mem_of_getElem? (i := 84) rfl))) (mvT hZ (hw _ (List.mem_of_getElem? (i := 85) rfl))) (mvT hZ (hw _ (List.mem_of_getElem? (i := 86) rfl))) (mvT hZ (hw _ (List.mem_of_getElem? (i := 87) rfl))) (mvT hZ (hw _ (List.mem_of_getElem? (i := 88) rfl))) (mvT hZ (hw _ (List.mem_of_getElem? (i := 89) rfl))) (mvT hZ (hw _ (List.mem_of_getElem? (i := 41) rfl))) (by decide) (backOf (W := 2) (rm13 l Z a0 hw [] li (0 : Int32) t kt [(.ref el0), (.ref el1), (.ref el2), (.ref el3), .null, .null, .null, .null, .null, .null] el0 (4 : Int32) h6 n0 Z6 c11 c12 ⟨by decide, by decide⟩ rfl c13 c14 ⟨by decide, by decide⟩) hZ (hw _ (List.mem_of_getElem? (i := 90) rfl)) (hw _ (List.mem_of_getElem? (i := 3) rfl)) (by decide) (by decide)) q15a q15b q15c (g := (mkF m 35 #[.val (.ref a), .val (.ref li), .val (.int (0 : Int32))] [(.int (0 : Int32)), (.ref li), (.int (0 : Int32)), (.ref b3)])) rfl (by rw [hml]; rfl) (Steps.refl _) (argsL := [(.int (0 : Int32))]) (rest := [(.int (0 : Int32)), (.ref b3)]) (lenOf pd_6 rfl) rfl (by show 2 * 0 + _ ≤ _; exact Nat.le_of_eq rfl) (hb hby d5_35) (fun _ _ => ⟨rfl, e10, (by decide : 1 + 0 ≤ _), (by decide : 4 + 0 ≤ _)⟩)
  dsimp only [Pt.U, Pt.locs, Pt.cells, Pt.slots] at X15 l15 y15 z15 st15 hQ15
  subst l15 y15 z15
  obtain ⟨rfl, N15q, e15⟩ := hQ15
  have N15 := Fr.app N6 N15q
  refine Done.st (B := T15.setTop (mkF m 40 #[.val (.ref a), .val (.ref li), .val (.int (0 : Int32))] [(.ref el0), (.int (0 : Int32)), (.ref b3)])) (fun _ k => st15.trans k) ?_
  have c17 := (Exa.wr W6 (Exa.ext E3 X_el0))
  obtain ⟨T16, X16, e16, st16⟩ := castY X15 hx hZ hown (hw _ (List.mem_of_getElem? (i := 45) rfl)) e15 (Ins.self c17) (g := (mkF m 40 #[.val (.ref a), .val (.ref li), .val (.int (0 : Int32))] [(.ref el0), (.int (0 : Int32)), (.ref b3)])) rfl rfl (hb hby d5_40)
  refine Done.st (B := T16.setTop (mkF m 43 #[.val (.ref a), .val (.ref li), .val (.int (0 : Int32))] [(.ref el0), (.int (0 : Int32)), (.ref b3)])) (fun _ k => st16 _ k) ?_
  have c19 := ((Y_el0.ext E3).other W6 (Ne.symm na_el0))
  obtain ⟨kk18, hs18, vs18, dv18, FF18, -⟩ := id c19
  obtain ⟨T18, h18, X18, e18, E18, A18, Ex18, st18⟩ := cloneH X16 hx hZ hown (hw _ (List.mem_of_getElem? (i := 105) rfl)) (hw _ (List.mem_of_getElem? (i := 106) rfl)) (hw _ (List.mem_of_getElem? (i := 110) rfl)) (hw _ (List.mem_of_getElem? (i := 108) rfl)) (hw _ (List.mem_of_getElem? (i := 109) rfl)) (hw _ (List.mem_of_getElem? (i := 111) rfl)) e16 FF18 c17 (g := (mkF m 43 #[.val (.ref a), .val (.ref li), .val (.int (0 : Int32))] [(.ref el0), (.int (0 : Int32)), (.ref b3)])) rfl (by rw [hml]; rfl) rfl (hb hby d5_43) (by decide) (W := 2) (by show 2 * 0 + _ ≤ _; exact Nat.le_of_eq rfl) (by decide) (cap := 7) (own_cap h_ln0) (by decide) (by decide)
  have c20 := ((Y_el1.ext E3).other W6 (Ne.symm na_el1))
  have c21 := ((Y_el2.ext E3).other W6 (Ne.symm na_el2))
  have c22 := ((Y_el3.ext E3).other W6 (Ne.symm na_el3))
  obtain ⟨b18, g18⟩ : ∃ z, z = h6.size := ⟨_, rfl⟩
  rw [← g18] at A18 Ex18 st18
  have ne_li_b18 : li ≠ b18 := Nat.ne_of_lt (Nat.lt_of_lt_of_le c14.lt (Nat.le_of_eq g18.symm))
  have ne_a_b18 : a ≠ b18 := Nat.ne_of_lt (Nat.lt_of_lt_of_le F6.lt (Nat.le_of_eq g18.symm))
  have ne_t_b18 : t ≠ b18 := Nat.ne_of_lt (Nat.lt_of_lt_of_le c12.lt (Nat.le_of_eq g18.symm))
  have ne_el0_b18 : el0 ≠ b18 := Nat.ne_of_lt (Nat.lt_of_lt_of_le c19.lt (Nat.le_of_eq g18.symm))
  have ne_el1_b18 : el1 ≠ b18 := Nat.ne_of_lt (Nat.lt_of_lt_of_le c20.lt (Nat.le_of_eq g18.symm))
  have ne_el2_b18 : el2 ≠ b18 := Nat.ne_of_lt (Nat.lt_of_lt_of_le c21.lt (Nat.le_of_eq g18.symm))
  have ne_el3_b18 : el3 ≠ b18 := Nat.ne_of_lt (Nat.lt_of_lt_of_le c22.lt (Nat.le_of_eq g18.symm))
  have ne_b3_b18 : b3 ≠ b18 := Nat.ne_of_lt (Nat.lt_of_lt_of_le c9.lt (Nat.le_of_eq g18.symm))
  have ge_b18 : n0 ≤ b18 := Nat.le_trans Z6 (Nat.le_of_eq g18.symm)
  have sz_b18 : h0.size ≤ b18 := Nat.le_trans (KK6).1 (Nat.le_of_eq g18.symm)
  have Z18 : n0 ≤ h18.size := Nat.le_trans Z6 E18.1
  have Y18 : IA Z h18 b18 ln0 := ⟨_, _, _, _, A18, Ex18⟩
  have KK18 : Keep h0 h18 [a] := (KK6).ext E18
  refine Done.st (B := T18.setTop (mkF m 46 #[.val (.ref a), .val (.ref li), .val (.int (0 : Int32))] [(.ref b18), (.int (0 : Int32)), (.ref b3)])) (fun _ k => st18 _ k) ?_
  obtain ⟨T23, X23, e23, st23⟩ := castY X18 hx hZ hown (hw _ (List.mem_of_getElem? (i := 45) rfl)) e18 (Ins.self Ex18) (g := (mkF m 46 #[.val (.ref a), .val (.ref li), .val (.int (0 : Int32))] [(.ref b18), (.int (0 : Int32)), (.ref b3)])) rfl rfl (hb hby d5_46)
  refine Done.st (B := T23.setTop (mkF m 49 #[.val (.ref a), .val (.ref li), .val (.int (0 : Int32))] [(.ref b18), (.int (0 : Int32)), (.ref b3)])) (fun _ k => st23 _ k) ?_
  have c25 := (c9.ext E18)
  obtain ⟨cl24, Ar24, q24, S24, M24, H24, G24⟩ := id c25
  have hin24 : ¬ ((0 : Int32) < 0 ∨ cl24.slots.size ≤ ((0 : Int32)).toNatClampNeg) := inb_of S24 ⟨by decide, by decide⟩
  obtain ⟨T24, h24, X24, e24, W24, st24⟩ := stR X23 hx hZ e23 Ar24 (j := (0 : Int32)) hin24 rfl (Sto.ofVA Ar24 q24 O3 (Ins.self Ex18)) (g := (mkF m 49 #[.val (.ref a), .val (.ref li), .val (.int (0 : Int32))] [(.ref b18), (.int (0 : Int32)), (.ref b3)])) rfl rfl (hb hby d5_49)
  have V24 : Arv Z h24 b3 k3 (.array .int) (4 : Int32) [(.ref b18), .null, .null, .null] .null := Arv.set Ar24 q24 S24 M24 H24 G24 rfl W24 0 rfl (Nat.le_of_ble_eq_true rfl)
  have N24 := Fr.snoc X24 N15 ge_b3
  have Z24 : n0 ≤ h24.size := Nat.le_trans Z18 (Keep.of_wr W24).1
  have KK24 : Keep h0 h24 [a] := (KK18).wr W24 (Or.inr sz_b3)
  refine Done.st (B := T24.setTop (mkF m 50 #[.val (.ref a), .val (.ref li), .val (.int (0 : Int32))] [])) (fun _ k => st24 _ k) ?_
  refine Done.st (B := T24.setTop (mkF m 53 #[.val (.ref a), .val (.ref li), .val (.int (1 : Int32))] [])) (fun _ k => XS.iinc X24.here hx rfl (hb hby d5_50) rfl (l' := #[.val (.ref a), .val (.ref li), .val (.int (1 : Int32))]) rfl k) ?_
  refine Done.st (B := T24.setTop (mkF m 19 #[.val (.ref a), .val (.ref li), .val (.int (1 : Int32))] [])) (fun _ k => XS.goto X24.here hx rfl (pc0 := 53) (pc' := 19) rfl (hb hby d5_53) (by decide) (by decide) k) ?_
  refine Done.st (B := T24.setTop (mkF m 20 #[.val (.ref a), .val (.ref li), .val (.int (1 : Int32))] [(.int (1 : Int32))])) (fun _ k => XS.iloadN X24.here hx rfl (hb hby d5_19) rfl k) ?_
  refine Done.st (B := T24.setTop (mkF m 21 #[.val (.ref a), .val (.ref li), .val (.int (1 : Int32))] [(.ref a), (.int (1 : Int32))])) (fun _ k => XS.aloadN X24.here hx rfl (hb hby d5_20) rfl rfl k) ?_
  have c27 := (Fld.other W24 (Fld.ext E18 F6) (Or.inl ne_a_b3))
  obtain ⟨T26, X26, e26, st26⟩ := getF X24 hx hZ hown (host := "") (Or.inl (hw _ (List.mem_of_getElem? (i := 47) rfl))) Via.refl e24 c27 (g := (mkF m 21 #[.val (.ref a), .val (.ref li), .val (.int (1 : Int32))] [(.ref a), (.int (1 : Int32))])) rfl rfl (hb hby d5_21)
  refine Done.st (B := T26.setTop (mkF m 24 #[.val (.ref a), .val (.ref li), .val (.int (1 : Int32))] [(.ref b3), (.int (1 : Int32))])) (fun _ k => st26 _ k) ?_
  obtain ⟨cl28, Ar28, q28, S28, M28, -⟩ := id V24
  refine Done.st (B := T26.setTop (mkF m 25 #[.val (.ref a), .val (.ref li), .val (.int (1 : Int32))] [(.int (4 : Int32)), (.int (1 : Int32))])) (fun _ k => X26.arraylength hx (by rw [e26]; exact Ar28.1) (State.isArrayOf_alike hZ.alike Ar28.2.1) (g := (mkF m 24 #[.val (.ref a), .val (.ref li), .val (.int (1 : Int32))] [(.ref b3), (.int (1 : Int32))])) rfl rfl (hb hby d5_24) _ (by rw [len_of S28 M28]; exact k)) ?_
  refine Done.st (B := T26.setTop (mkF m 28 #[.val (.ref a), .val (.ref li), .val (.int (1 : Int32))] [])) (fun _ k => XS.icmpNo X26.here hx rfl (hb hby d5_25) rfl (tlt (by decide : (1 : Int32) < (4 : Int32))).2.1 k) ?_
  refine Done.st (B := T26.setTop (mkF m 29 #[.val (.ref a), .val (.ref li), .val (.int (1 : Int32))] [(.ref a)])) (fun _ k => XS.aloadN X26.here hx rfl (hb hby d5_28) rfl rfl k) ?_
  obtain ⟨T29, X29, e29, st29⟩ := getF X26 hx hZ hown (host := "") (Or.inl (hw _ (List.mem_of_getElem? (i := 47) rfl))) Via.refl e26 c27 (g := (mkF m 29 #[.val (.ref a), .val (.ref li), .val (.int (1 : Int32))] [(.ref a)])) rfl rfl (hb hby d5_29)
  refine Done.st (B := T29.setTop (mkF m 32 #[.val (.ref a), .val (.ref li), .val (.int (1 : Int32))] [(.ref b3)])) (fun _ k => st29 _ k) ?_
  refine Done.st (B := T29.setTop (mkF m 33 #[.val (.ref a), .val (.ref li), .val (.int (1 : Int32))] [(.int (1 : Int32)), (.ref b3)])) (fun _ k => XS.iloadN X29.here hx rfl (hb hby d5_32) rfl k) ?_
  refine Done.st (B := T29.setTop (mkF m 34 #[.val (.ref a), .val (.ref li), .val (.int (1 : Int32))] [(.ref li), (.int (1 : Int32)), (.ref b3)])) (fun _ k => XS.aloadN X29.here hx rfl (hb hby d5_33) rfl rfl k) ?_
  refine Done.st (B := T29.setTop (mkF m 35 #[.val (.ref a), .val (.ref li), .val (.int (1 : Int32))] [(.int (1 : Int32)), (.ref li), (.int (1 : Int32)), (.ref b3)])) (fun _ k => XS.iloadN X29.here hx rfl (hb hby d5_34) rfl k) ?_
  have c30 := (Fld.other W24 (Fld.ext E18 c11) (Or.inl ne_li_b3))
  have c31 := ((c12.ext E18).other W24 ne_t_b3)
  have c32 := (Fld.other W24 (Fld.ext E18 c13) (Or.inl ne_li_b3))
  have c33 := (Exa.wr W24 (Exa.ext E18 c14))
  obtain ⟨cq34, kq34, q34a, q34b, q34c⟩ := isOf hZ e29 c33
  obtain ⟨_, _, ⟨T34, L34, k34, n34⟩, -, X34, ⟨Lc34, hQ34, l34, y34, z34⟩, st34⟩ := X29.interfaceBack hx (xi := (⟨"java/util/List", "get", "(I)Ljava/lang/Object;"⟩ : MethodName)) (y := (⟨"java/util/ArrayList", "get", "(I)Ljava/lang/Object;"⟩ : MethodName)) hown (mvT hZ (hw _ (List.mem_of_getElem? (i := 83) rfl))) (mvT hZ (hw _ (List.mem_of_getElem? (i := 84) rfl))) (mvT hZ (hw _ (List.mem_of_getElem? (i := 85) rfl))) (mvT hZ (hw _ (List.mem_of_getElem? (i := 86) rfl))) (mvT hZ (hw _ (List.mem_of_getElem? (i := 87) rfl))) (mvT hZ (hw _ (List.mem_of_getElem? (i := 88) rfl))) (mvT hZ (hw _ (List.mem_of_getElem? (i := 89) rfl))) (mvT hZ (hw _ (List.mem_of_getElem? (i := 41) rfl))) (by decide) (backOf (W := 2) (rm13 l Z a0 hw [] li (1 : Int32) t kt [(.ref el0), (.ref el1), (.ref el2), (.ref el3), .null, .null, .null, .null, .null, .null] el1 (4 : Int32) h24 n0 Z24 c30 c31 ⟨by decide, by decide⟩ rfl c32 c33 ⟨by decide, by decide⟩) hZ (hw _ (List.mem_of_getElem? (i := 90) rfl)) (hw _ (List.mem_of_getElem? (i := 3) rfl)) (by decide) (by decide)) q34a q34b q34c (g := (mkF m 35 #[.val (.ref a), .val (.ref li), .val (.int (1 : Int32))] [(.int (1 : Int32)), (.ref li), (.int (1 : Int32)), (.ref b3)])) rfl (by rw [hml]; rfl) (Steps.refl _) (argsL := [(.int (1 : Int32))]) (rest := [(.int (1 : Int32)), (.ref b3)]) (lenOf pd_6 rfl) rfl (by show 2 * 0 + _ ≤ _; exact Nat.le_of_eq rfl) (hb hby d5_35) (fun _ _ => ⟨rfl, e29, (by decide : 2 + 0 ≤ _), (by decide : 11 + 0 ≤ _)⟩)
  dsimp only [Pt.U, Pt.locs, Pt.cells, Pt.slots] at X34 l34 y34 z34 st34 hQ34
  subst l34 y34 z34
  obtain ⟨rfl, N34q, e34⟩ := hQ34
  have N34 := Fr.app N24 N34q
  refine Done.st (B := T34.setTop (mkF m 40 #[.val (.ref a), .val (.ref li), .val (.int (1 : Int32))] [(.ref el1), (.int (1 : Int32)), (.ref b3)])) (fun _ k => st34.trans k) ?_
  have c36 := (Exa.wr W24 (Exa.ext E18 (Exa.wr W6 (Exa.ext E3 X_el1))))
  obtain ⟨T35, X35, e35, st35⟩ := castY X34 hx hZ hown (hw _ (List.mem_of_getElem? (i := 45) rfl)) e34 (Ins.self c36) (g := (mkF m 40 #[.val (.ref a), .val (.ref li), .val (.int (1 : Int32))] [(.ref el1), (.int (1 : Int32)), (.ref b3)])) rfl rfl (hb hby d5_40)
  refine Done.st (B := T35.setTop (mkF m 43 #[.val (.ref a), .val (.ref li), .val (.int (1 : Int32))] [(.ref el1), (.int (1 : Int32)), (.ref b3)])) (fun _ k => st35 _ k) ?_
  have c38 := ((c20.ext E18).other W24 ne_el1_b3)
  obtain ⟨kk37, hs37, vs37, dv37, FF37, -⟩ := id c38
  obtain ⟨T37, h37, X37, e37, E37, A37, Ex37, st37⟩ := cloneH X35 hx hZ hown (hw _ (List.mem_of_getElem? (i := 105) rfl)) (hw _ (List.mem_of_getElem? (i := 106) rfl)) (hw _ (List.mem_of_getElem? (i := 110) rfl)) (hw _ (List.mem_of_getElem? (i := 108) rfl)) (hw _ (List.mem_of_getElem? (i := 109) rfl)) (hw _ (List.mem_of_getElem? (i := 111) rfl)) e35 FF37 c36 (g := (mkF m 43 #[.val (.ref a), .val (.ref li), .val (.int (1 : Int32))] [(.ref el1), (.int (1 : Int32)), (.ref b3)])) rfl (by rw [hml]; rfl) rfl (hb hby d5_43) (by decide) (W := 2) (by show 2 * 0 + _ ≤ _; exact Nat.le_of_eq rfl) (by decide) (cap := 7) (own_cap h_ln1) (by decide) (by decide)
  have c39 := ((c19.ext E18).other W24 ne_el0_b3)
  have c40 := ((c21.ext E18).other W24 ne_el2_b3)
  have c41 := ((c22.ext E18).other W24 ne_el3_b3)
  have c42 := (Y18.other W24 (Ne.symm ne_b3_b18))
  obtain ⟨b37, g37⟩ : ∃ z, z = h24.size := ⟨_, rfl⟩
  rw [← g37] at A37 Ex37 st37
  have ne_li_b37 : li ≠ b37 := Nat.ne_of_lt (Nat.lt_of_lt_of_le c33.lt (Nat.le_of_eq g37.symm))
  have ne_a_b37 : a ≠ b37 := Nat.ne_of_lt (Nat.lt_of_lt_of_le c27.lt (Nat.le_of_eq g37.symm))
  have ne_t_b37 : t ≠ b37 := Nat.ne_of_lt (Nat.lt_of_lt_of_le c31.lt (Nat.le_of_eq g37.symm))
  have ne_el0_b37 : el0 ≠ b37 := Nat.ne_of_lt (Nat.lt_of_lt_of_le c39.lt (Nat.le_of_eq g37.symm))
  have ne_el1_b37 : el1 ≠ b37 := Nat.ne_of_lt (Nat.lt_of_lt_of_le c38.lt (Nat.le_of_eq g37.symm))
  have ne_el2_b37 : el2 ≠ b37 := Nat.ne_of_lt (Nat.lt_of_lt_of_le c40.lt (Nat.le_of_eq g37.symm))
  have ne_el3_b37 : el3 ≠ b37 := Nat.ne_of_lt (Nat.lt_of_lt_of_le c41.lt (Nat.le_of_eq g37.symm))
  have ne_b3_b37 : b3 ≠ b37 := Nat.ne_of_lt (Nat.lt_of_lt_of_le V24.lt (Nat.le_of_eq g37.symm))
  have ne_b18_b37 : b18 ≠ b37 := Nat.ne_of_lt (Nat.lt_of_lt_of_le c42.lt (Nat.le_of_eq g37.symm))
  have ge_b37 : n0 ≤ b37 := Nat.le_trans Z24 (Nat.le_of_eq g37.symm)
  have sz_b37 : h0.size ≤ b37 := Nat.le_trans (KK24).1 (Nat.le_of_eq g37.symm)
  have Z37 : n0 ≤ h37.size := Nat.le_trans Z24 E37.1
  have Y37 : IA Z h37 b37 ln1 := ⟨_, _, _, _, A37, Ex37⟩
  have KK37 : Keep h0 h37 [a] := (KK24).ext E37
  refine Done.st (B := T37.setTop (mkF m 46 #[.val (.ref a), .val (.ref li), .val (.int (1 : Int32))] [(.ref b37), (.int (1 : Int32)), (.ref b3)])) (fun _ k => st37 _ k) ?_
  obtain ⟨T43, X43, e43, st43⟩ := castY X37 hx hZ hown (hw _ (List.mem_of_getElem? (i := 45) rfl)) e37 (Ins.self Ex37) (g := (mkF m 46 #[.val (.ref a), .val (.ref li), .val (.int (1 : Int32))] [(.ref b37), (.int (1 : Int32)), (.ref b3)])) rfl rfl (hb hby d5_46)
  refine Done.st (B := T43.setTop (mkF m 49 #[.val (.ref a), .val (.ref li), .val (.int (1 : Int32))] [(.ref b37), (.int (1 : Int32)), (.ref b3)])) (fun _ k => st43 _ k) ?_
  have c45 := (V24.ext E37)
  obtain ⟨cl44, Ar44, q44, S44, M44, H44, G44⟩ := id c45
  have hin44 : ¬ ((1 : Int32) < 0 ∨ cl44.slots.size ≤ ((1 : Int32)).toNatClampNeg) := inb_of S44 ⟨by decide, by decide⟩
  obtain ⟨T44, h44, X44, e44, W44, st44⟩ := stR X43 hx hZ e43 Ar44 (j := (1 : Int32)) hin44 rfl (Sto.ofVA Ar44 q44 O3 (Ins.self Ex37)) (g := (mkF m 49 #[.val (.ref a), .val (.ref li), .val (.int (1 : Int32))] [(.ref b37), (.int (1 : Int32)), (.ref b3)])) rfl rfl (hb hby d5_49)
  have V44 : Arv Z h44 b3 k3 (.array .int) (4 : Int32) [(.ref b18), (.ref b37), .null, .null] .null := Arv.set Ar44 q44 S44 M44 H44 G44 rfl W44 1 rfl (Nat.le_of_ble_eq_true rfl)
  have N44 := Fr.snoc X44 N34 ge_b3
  have Z44 : n0 ≤ h44.size := Nat.le_trans Z37 (Keep.of_wr W44).1
  have KK44 : Keep h0 h44 [a] := (KK37).wr W44 (Or.inr sz_b3)
  refine Done.st (B := T44.setTop (mkF m 50 #[.val (.ref a), .val (.ref li), .val (.int (1 : Int32))] [])) (fun _ k => st44 _ k) ?_
  refine Done.st (B := T44.setTop (mkF m 53 #[.val (.ref a), .val (.ref li), .val (.int (2 : Int32))] [])) (fun _ k => XS.iinc X44.here hx rfl (hb hby d5_50) rfl (l' := #[.val (.ref a), .val (.ref li), .val (.int (2 : Int32))]) rfl k) ?_
  refine Done.st (B := T44.setTop (mkF m 19 #[.val (.ref a), .val (.ref li), .val (.int (2 : Int32))] [])) (fun _ k => XS.goto X44.here hx rfl (pc0 := 53) (pc' := 19) rfl (hb hby d5_53) (by decide) (by decide) k) ?_
  refine Done.st (B := T44.setTop (mkF m 20 #[.val (.ref a), .val (.ref li), .val (.int (2 : Int32))] [(.int (2 : Int32))])) (fun _ k => XS.iloadN X44.here hx rfl (hb hby d5_19) rfl k) ?_
  refine Done.st (B := T44.setTop (mkF m 21 #[.val (.ref a), .val (.ref li), .val (.int (2 : Int32))] [(.ref a), (.int (2 : Int32))])) (fun _ k => XS.aloadN X44.here hx rfl (hb hby d5_20) rfl rfl k) ?_
  have c47 := (Fld.other W44 (Fld.ext E37 c27) (Or.inl ne_a_b3))
  obtain ⟨T46, X46, e46, st46⟩ := getF X44 hx hZ hown (host := "") (Or.inl (hw _ (List.mem_of_getElem? (i := 47) rfl))) Via.refl e44 c47 (g := (mkF m 21 #[.val (.ref a), .val (.ref li), .val (.int (2 : Int32))] [(.ref a), (.int (2 : Int32))])) rfl rfl (hb hby d5_21)
  refine Done.st (B := T46.setTop (mkF m 24 #[.val (.ref a), .val (.ref li), .val (.int (2 : Int32))] [(.ref b3), (.int (2 : Int32))])) (fun _ k => st46 _ k) ?_
  obtain ⟨cl48, Ar48, q48, S48, M48, -⟩ := id V44
  refine Done.st (B := T46.setTop (mkF m 25 #[.val (.ref a), .val (.ref li), .val (.int (2 : Int32))] [(.int (4 : Int32)), (.int (2 : Int32))])) (fun _ k => X46.arraylength hx (by rw [e46]; exact Ar48.1) (State.isArrayOf_alike hZ.alike Ar48.2.1) (g := (mkF m 24 #[.val (.ref a), .val (.ref li), .val (.int (2 : Int32))] [(.ref b3), (.int (2 : Int32))])) rfl rfl (hb hby d5_24) _ (by rw [len_of S48 M48]; exact k)) ?_
  refine Done.st (B := T46.setTop (mkF m 28 #[.val (.ref a), .val (.ref li), .val (.int (2 : Int32))] [])) (fun _ k => XS.icmpNo X46.here hx rfl (hb hby d5_25) rfl (tlt (by decide : (2 : Int32) < (4 : Int32))).2.1 k) ?_
  refine Done.st (B := T46.setTop (mkF m 29 #[.val (.ref a), .val (.ref li), .val (.int (2 : Int32))] [(.ref a)])) (fun _ k => XS.aloadN X46.here hx rfl (hb hby d5_28) rfl rfl k) ?_
  obtain ⟨T49, X49, e49, st49⟩ := getF X46 hx hZ hown (host := "") (Or.inl (hw _ (List.mem_of_getElem? (i := 47) rfl))) Via.refl e46 c47 (g := (mkF m 29 #[.val (.ref a), .val (.ref li), .val (.int (2 : Int32))] [(.ref a)])) rfl rfl (hb hby d5_29)
  refine Done.st (B := T49.setTop (mkF m 32 #[.val (.ref a), .val (.ref li), .val (.int (2 : Int32))] [(.ref b3)])) (fun _ k => st49 _ k) ?_
  refine Done.st (B := T49.setTop (mkF m 33 #[.val (.ref a), .val (.ref li), .val (.int (2 : Int32))] [(.int (2 : Int32)), (.ref b3)])) (fun _ k => XS.iloadN X49.here hx rfl (hb hby d5_32) rfl k) ?_
  refine Done.st (B := T49.setTop (mkF m 34 #[.val (.ref a), .val (.ref li), .val (.int (2 : Int32))] [(.ref li), (.int (2 : Int32)), (.ref b3)])) (fun _ k => XS.aloadN X49.here hx rfl (hb hby d5_33) rfl rfl k) ?_
  refine Done.st (B := T49.setTop (mkF m 35 #[.val (.ref a), .val (.ref li), .val (.int (2 : Int32))] [(.int (2 : Int32)), (.ref li), (.int (2 : Int32)), (.ref b3)])) (fun _ k => XS.iloadN X49.here hx rfl (hb hby d5_34) rfl k) ?_
  have c50 := (Fld.other W44 (Fld.ext E37 c30) (Or.inl ne_li_b3))
  have c51 := ((c31.ext E37).other W44 ne_t_b3)
  have c52 := (Fld.other W44 (Fld.ext E37 c32) (Or.inl ne_li_b3))
  have c53 := (Exa.wr W44 (Exa.ext E37 c33))
  obtain ⟨cq54, kq54, q54a, q54b, q54c⟩ := isOf hZ e49 c53
  obtain ⟨_, _, ⟨T54, L54, k54, n54⟩, -, X54, ⟨Lc54, hQ54, l54, y54, z54⟩, st54⟩ := X49.interfaceBack hx (xi := (⟨"java/util/List", "get", "(I)Ljava/lang/Object;"⟩ : MethodName)) (y := (⟨"java/util/ArrayList", "get", "(I)Ljava/lang/Object;"⟩ : MethodName)) hown (mvT hZ (hw _ (List.mem_of_getElem? (i := 83) rfl))) (mvT hZ (hw _ (List.mem_of_getElem? (i := 84) rfl))) (mvT hZ (hw _ (List.mem_of_getElem? (i := 85) rfl))) (mvT hZ (hw _ (List.mem_of_getElem? (i := 86) rfl))) (mvT hZ (hw _ (List.mem_of_getElem? (i := 87) rfl))) (mvT hZ (hw _ (List.mem_of_getElem? (i := 88) rfl))) (mvT hZ (hw _ (List.mem_of_getElem? (i := 89) rfl))) (mvT hZ (hw _ (List.mem_of_getElem? (i := 41) rfl))) (by decide) (backOf (W := 2) (rm13 l Z a0 hw [] li (2 : Int32) t kt [(.ref el0), (.ref el1), (.ref el2), (.ref el3), .null, .null, .null, .null, .null, .null] el2 (4 : Int32) h44 n0 Z44 c50 c51 ⟨by decide, by decide⟩ rfl c52 c53 ⟨by decide, by decide⟩) hZ (hw _ (List.mem_of_getElem? (i := 90) rfl)) (hw _ (List.mem_of_getElem? (i := 3) rfl)) (by decide) (by decide)) q54a q54b q54c (g := (mkF m 35 #[.val (.ref a), .val (.ref li), .val (.int (2 : Int32))] [(.int (2 : Int32)), (.ref li), (.int (2 : Int32)), (.ref b3)])) rfl (by rw [hml]; rfl) (Steps.refl _) (argsL := [(.int (2 : Int32))]) (rest := [(.int (2 : Int32)), (.ref b3)]) (lenOf pd_6 rfl) rfl (by show 2 * 0 + _ ≤ _; exact Nat.le_of_eq rfl) (hb hby d5_35) (fun _ _ => ⟨rfl, e49, (by decide : 3 + 0 ≤ _), (by decide : 18 + 0 ≤ _)⟩)
  dsimp only [Pt.U, Pt.locs, Pt.cells, Pt.slots] at X54 l54 y54 z54 st54 hQ54
  subst l54 y54 z54
  obtain ⟨rfl, N54q, e54⟩ := hQ54
  have N54 := Fr.app N44 N54q
  refine Done.st (B := T54.setTop (mkF m 40 #[.val (.ref a), .val (.ref li), .val (.int (2 : Int32))] [(.ref el2), (.int (2 : Int32)), (.ref b3)])) (fun _ k => st54.trans k) ?_
  have c56 := (Exa.wr W44 (Exa.ext E37 (Exa.wr W24 (Exa.ext E18 (Exa.wr W6 (Exa.ext E3 X_el2))))))
  obtain ⟨T55, X55, e55, st55⟩ := castY X54 hx hZ hown (hw _ (List.mem_of_getElem? (i := 45) rfl)) e54 (Ins.self c56) (g := (mkF m 40 #[.val (.ref a), .val (.ref li), .val (.int (2 : Int32))] [(.ref el2), (.int (2 : Int32)), (.ref b3)])) rfl rfl (hb hby d5_40)
  refine Done.st (B := T55.setTop (mkF m 43 #[.val (.ref a), .val (.ref li), .val (.int (2 : Int32))] [(.ref el2), (.int (2 : Int32)), (.ref b3)])) (fun _ k => st55 _ k) ?_
  have c58 := ((c40.ext E37).other W44 ne_el2_b3)
  obtain ⟨kk57, hs57, vs57, dv57, FF57, -⟩ := id c58
  obtain ⟨T57, h57, X57, e57, E57, A57, Ex57, st57⟩ := cloneH X55 hx hZ hown (hw _ (List.mem_of_getElem? (i := 105) rfl)) (hw _ (List.mem_of_getElem? (i := 106) rfl)) (hw _ (List.mem_of_getElem? (i := 110) rfl)) (hw _ (List.mem_of_getElem? (i := 108) rfl)) (hw _ (List.mem_of_getElem? (i := 109) rfl)) (hw _ (List.mem_of_getElem? (i := 111) rfl)) e55 FF57 c56 (g := (mkF m 43 #[.val (.ref a), .val (.ref li), .val (.int (2 : Int32))] [(.ref el2), (.int (2 : Int32)), (.ref b3)])) rfl (by rw [hml]; rfl) rfl (hb hby d5_43) (by decide) (W := 2) (by show 2 * 0 + _ ≤ _; exact Nat.le_of_eq rfl) (by decide) (cap := 7) (own_cap h_ln2) (by decide) (by decide)
  have c59 := ((c39.ext E37).other W44 ne_el0_b3)
  have c60 := ((c38.ext E37).other W44 ne_el1_b3)
  have c61 := ((c41.ext E37).other W44 ne_el3_b3)
  have c62 := ((c42.ext E37).other W44 (Ne.symm ne_b3_b18))
  have c63 := (Y37.other W44 (Ne.symm ne_b3_b37))
  obtain ⟨b57, g57⟩ : ∃ z, z = h44.size := ⟨_, rfl⟩
  rw [← g57] at A57 Ex57 st57
  have ne_li_b57 : li ≠ b57 := Nat.ne_of_lt (Nat.lt_of_lt_of_le c53.lt (Nat.le_of_eq g57.symm))
  have ne_a_b57 : a ≠ b57 := Nat.ne_of_lt (Nat.lt_of_lt_of_le c47.lt (Nat.le_of_eq g57.symm))
  have ne_t_b57 : t ≠ b57 := Nat.ne_of_lt (Nat.lt_of_lt_of_le c51.lt (Nat.le_of_eq g57.symm))
  have ne_el0_b57 : el0 ≠ b57 := Nat.ne_of_lt (Nat.lt_of_lt_of_le c59.lt (Nat.le_of_eq g57.symm))
  have ne_el1_b57 : el1 ≠ b57 := Nat.ne_of_lt (Nat.lt_of_lt_of_le c60.lt (Nat.le_of_eq g57.symm))
  have ne_el2_b57 : el2 ≠ b57 := Nat.ne_of_lt (Nat.lt_of_lt_of_le c58.lt (Nat.le_of_eq g57.symm))
  have ne_el3_b57 : el3 ≠ b57 := Nat.ne_of_lt (Nat.lt_of_lt_of_le c61.lt (Nat.le_of_eq g57.symm))
  have ne_b3_b57 : b3 ≠ b57 := Nat.ne_of_lt (Nat.lt_of_lt_of_le V44.lt (Nat.le_of_eq g57.symm))
  have ne_b18_b57 : b18 ≠ b57 := Nat.ne_of_lt (Nat.lt_of_lt_of_le c62.lt (Nat.le_of_eq g57.symm))
  have ne_b37_b57 : b37 ≠ b57 := Nat.ne_of_lt (Nat.lt_of_lt_of_le c63.lt (Nat.le_of_eq g57.symm))
  have ge_b57 : n0 ≤ b57 := Nat.le_trans Z44 (Nat.le_of_eq g57.symm)
  have sz_b57 : h0.size ≤ b57 := Nat.le_trans (KK44).1 (Nat.le_of_eq g57.symm)
  have Z57 : n0 ≤ h57.size := Nat.le_trans Z44 E57.1
  have Y57 : IA Z h57 b57 ln2 := ⟨_, _, _, _, A57, Ex57⟩
  have KK57 : Keep h0 h57 [a] := (KK44).ext E57
  refine Done.st (B := T57.setTop (mkF m 46 #[.val (.ref a), .val (.ref li), .val (.int (2 : Int32))] [(.ref b57), (.int (2 : Int32)), (.ref b3)])) (fun _ k => st57 _ k) ?_
  obtain ⟨T64, X64, e64, st64⟩ := castY X57 hx hZ hown (hw _ (List.mem_of_getElem? (i := 45) rfl)) e57 (Ins.self Ex57) (g := (mkF m 46 #[.val (.ref a), .val (.ref li), .val (.int (2 : Int32))] [(.ref b57), (.int (2 : Int32)), (.ref b3)])) rfl rfl (hb hby d5_46)
  refine Done.st (B := T64.setTop (mkF m 49 #[.val (.ref a), .val (.ref li), .val (.int (2 : Int32))] [(.ref b57), (.int (2 : Int32)), (.ref b3)])) (fun _ k => st64 _ k) ?_
  have c66 := (V44.ext E57)
  obtain ⟨cl65, Ar65, q65, S65, M65, H65, G65⟩ := id c66
  have hin65 : ¬ ((2 : Int32) < 0 ∨ cl65.slots.size ≤ ((2 : Int32)).toNatClampNeg) := inb_of S65 ⟨by decide, by decide⟩
  obtain ⟨T65, h65, X65, e65, W65, st65⟩ := stR X64 hx hZ e64 Ar65 (j := (2 : Int32)) hin65 rfl (Sto.ofVA Ar65 q65 O3 (Ins.self Ex57)) (g := (mkF m 49 #[.val (.ref a), .val (.ref li), .val (.int (2 : Int32))] [(.ref b57), (.int (2 : Int32)), (.ref b3)])) rfl rfl (hb hby d5_49)
  have V65 : Arv Z h65 b3 k3 (.array .int) (4 : Int32) [(.ref b18), (.ref b37), (.ref b57), .null] .null := Arv.set Ar65 q65 S65 M65 H65 G65 rfl W65 2 rfl (Nat.le_of_ble_eq_true rfl)
  have N65 := Fr.snoc X65 N54 ge_b3
  have Z65 : n0 ≤ h65.size := Nat.le_trans Z57 (Keep.of_wr W65).1
  have KK65 : Keep h0 h65 [a] := (KK57).wr W65 (Or.inr sz_b3)
  refine Done.st (B := T65.setTop (mkF m 50 #[.val (.ref a), .val (.ref li), .val (.int (2 : Int32))] [])) (fun _ k => st65 _ k) ?_
  refine Done.st (B := T65.setTop (mkF m 53 #[.val (.ref a), .val (.ref li), .val (.int (3 : Int32))] [])) (fun _ k => XS.iinc X65.here hx rfl (hb hby d5_50) rfl (l' := #[.val (.ref a), .val (.ref li), .val (.int (3 : Int32))]) rfl k) ?_
  refine Done.st (B := T65.setTop (mkF m 19 #[.val (.ref a), .val (.ref li), .val (.int (3 : Int32))] [])) (fun _ k => XS.goto X65.here hx rfl (pc0 := 53) (pc' := 19) rfl (hb hby d5_53) (by decide) (by decide) k) ?_
  refine Done.st (B := T65.setTop (mkF m 20 #[.val (.ref a), .val (.ref li), .val (.int (3 : Int32))] [(.int (3 : Int32))])) (fun _ k => XS.iloadN X65.here hx rfl (hb hby d5_19) rfl k) ?_
  refine Done.st (B := T65.setTop (mkF m 21 #[.val (.ref a), .val (.ref li), .val (.int (3 : Int32))] [(.ref a), (.int (3 : Int32))])) (fun _ k => XS.aloadN X65.here hx rfl (hb hby d5_20) rfl rfl k) ?_
  have c68 := (Fld.other W65 (Fld.ext E57 c47) (Or.inl ne_a_b3))
  obtain ⟨T67, X67, e67, st67⟩ := getF X65 hx hZ hown (host := "") (Or.inl (hw _ (List.mem_of_getElem? (i := 47) rfl))) Via.refl e65 c68 (g := (mkF m 21 #[.val (.ref a), .val (.ref li), .val (.int (3 : Int32))] [(.ref a), (.int (3 : Int32))])) rfl rfl (hb hby d5_21)
  refine Done.st (B := T67.setTop (mkF m 24 #[.val (.ref a), .val (.ref li), .val (.int (3 : Int32))] [(.ref b3), (.int (3 : Int32))])) (fun _ k => st67 _ k) ?_
  obtain ⟨cl69, Ar69, q69, S69, M69, -⟩ := id V65
  refine Done.st (B := T67.setTop (mkF m 25 #[.val (.ref a), .val (.ref li), .val (.int (3 : Int32))] [(.int (4 : Int32)), (.int (3 : Int32))])) (fun _ k => X67.arraylength hx (by rw [e67]; exact Ar69.1) (State.isArrayOf_alike hZ.alike Ar69.2.1) (g := (mkF m 24 #[.val (.ref a), .val (.ref li), .val (.int (3 : Int32))] [(.ref b3), (.int (3 : Int32))])) rfl rfl (hb hby d5_24) _ (by rw [len_of S69 M69]; exact k)) ?_
  refine Done.st (B := T67.setTop (mkF m 28 #[.val (.ref a), .val (.ref li), .val (.int (3 : Int32))] [])) (fun _ k => XS.icmpNo X67.here hx rfl (hb hby d5_25) rfl (tlt (by decide : (3 : Int32) < (4 : Int32))).2.1 k) ?_
  refine Done.st (B := T67.setTop (mkF m 29 #[.val (.ref a), .val (.ref li), .val (.int (3 : Int32))] [(.ref a)])) (fun _ k => XS.aloadN X67.here hx rfl (hb hby d5_28) rfl rfl k) ?_
  obtain ⟨T70, X70, e70, st70⟩ := getF X67 hx hZ hown (host := "") (Or.inl (hw _ (List.mem_of_getElem? (i := 47) rfl))) Via.refl e67 c68 (g := (mkF m 29 #[.val (.ref a), .val (.ref li), .val (.int (3 : Int32))] [(.ref a)])) rfl rfl (hb hby d5_29)
  refine Done.st (B := T70.setTop (mkF m 32 #[.val (.ref a), .val (.ref li), .val (.int (3 : Int32))] [(.ref b3)])) (fun _ k => st70 _ k) ?_
  refine Done.st (B := T70.setTop (mkF m 33 #[.val (.ref a), .val (.ref li), .val (.int (3 : Int32))] [(.int (3 : Int32)), (.ref b3)])) (fun _ k => XS.iloadN X70.here hx rfl (hb hby d5_32) rfl k) ?_
  refine Done.st (B := T70.setTop (mkF m 34 #[.val (.ref a), .val (.ref li), .val (.int (3 : Int32))] [(.ref li), (.int (3 : Int32)), (.ref b3)])) (fun _ k => XS.aloadN X70.here hx rfl (hb hby d5_33) rfl rfl k) ?_
  refine Done.st (B := T70.setTop (mkF m 35 #[.val (.ref a), .val (.ref li), .val (.int (3 : Int32))] [(.int (3 : Int32)), (.ref li), (.int (3 : Int32)), (.ref b3)])) (fun _ k => XS.iloadN X70.here hx rfl (hb hby d5_34) rfl k) ?_
  have c71 := (Fld.other W65 (Fld.ext E57 c50) (Or.inl ne_li_b3))
  have c72 := ((c51.ext E57).other W65 ne_t_b3)
  have c73 := (Fld.other W65 (Fld.ext E57 c52) (Or.inl ne_li_b3))
  have c74 := (Exa.wr W65 (Exa.ext E57 c53))
  obtain ⟨cq75, kq75, q75a, q75b, q75c⟩ := isOf hZ e70 c74
  obtain ⟨_, _, ⟨T75, L75, k75, n75⟩, -, X75, ⟨Lc75, hQ75, l75, y75, z75⟩, st75⟩ := X70.interfaceBack hx (xi := (⟨"java/util/List", "get", "(I)Ljava/lang/Object;"⟩ : MethodName)) (y := (⟨"java/util/ArrayList", "get", "(I)Ljava/lang/Object;"⟩ : MethodName)) hown (mvT hZ (hw _ (List.mem_of_getElem? (i := 83) rfl))) (mvT hZ (hw _ (List.mem_of_getElem? (i := 84) rfl))) (mvT hZ (hw _ (List.mem_of_getElem? (i := 85) rfl))) (mvT hZ (hw _ (List.mem_of_getElem? (i := 86) rfl))) (mvT hZ (hw _ (List.mem_of_getElem? (i := 87) rfl))) (mvT hZ (hw _ (List.mem_of_getElem? (i := 88) rfl))) (mvT hZ (hw _ (List.mem_of_getElem? (i := 89) rfl))) (mvT hZ (hw _ (List.mem_of_getElem? (i := 41) rfl))) (by decide) (backOf (W := 2) (rm13 l Z a0 hw [] li (3 : Int32) t kt [(.ref el0), (.ref el1), (.ref el2), (.ref el3), .null, .null, .null, .null, .null, .null] el3 (4 : Int32) h65 n0 Z65 c71 c72 ⟨by decide, by decide⟩ rfl c73 c74 ⟨by decide, by decide⟩) hZ (hw _ (List.mem_of_getElem? (i := 90) rfl)) (hw _ (List.mem_of_getElem? (i := 3) rfl)) (by decide) (by decide)) q75a q75b q75c (g := (mkF m 35 #[.val (.ref a), .val (.ref li), .val (.int (3 : Int32))] [(.int (3 : Int32)), (.ref li), (.int (3 : Int32)), (.ref b3)])) rfl (by rw [hml]; rfl) (Steps.refl _) (argsL := [(.int (3 : Int32))]) (rest := [(.int (3 : Int32)), (.ref b3)]) (lenOf pd_6 rfl) rfl (by show 2 * 0 + _ ≤ _; exact Nat.le_of_eq rfl) (hb hby d5_35) (fun _ _ => ⟨rfl, e70, (by decide : 4 + 0 ≤ _), (by decide : 25 + 0 ≤ _)⟩)
  dsimp only [Pt.U, Pt.locs, Pt.cells, Pt.slots] at X75 l75 y75 z75 st75 hQ75
  subst l75 y75 z75
  obtain ⟨rfl, N75q, e75⟩ := hQ75
  have N75 := Fr.app N65 N75q
  refine Done.st (B := T75.setTop (mkF m 40 #[.val (.ref a), .val (.ref li), .val (.int (3 : Int32))] [(.ref el3), (.int (3 : Int32)), (.ref b3)])) (fun _ k => st75.trans k) ?_
  have c77 := (Exa.wr W65 (Exa.ext E57 (Exa.wr W44 (Exa.ext E37 (Exa.wr W24 (Exa.ext E18 (Exa.wr W6 (Exa.ext E3 X_el3))))))))
  obtain ⟨T76, X76, e76, st76⟩ := castY X75 hx hZ hown (hw _ (List.mem_of_getElem? (i := 45) rfl)) e75 (Ins.self c77) (g := (mkF m 40 #[.val (.ref a), .val (.ref li), .val (.int (3 : Int32))] [(.ref el3), (.int (3 : Int32)), (.ref b3)])) rfl rfl (hb hby d5_40)
  refine Done.st (B := T76.setTop (mkF m 43 #[.val (.ref a), .val (.ref li), .val (.int (3 : Int32))] [(.ref el3), (.int (3 : Int32)), (.ref b3)])) (fun _ k => st76 _ k) ?_
  have c79 := ((c61.ext E57).other W65 ne_el3_b3)
  obtain ⟨kk78, hs78, vs78, dv78, FF78, -⟩ := id c79
  obtain ⟨T78, h78, X78, e78, E78, A78, Ex78, st78⟩ := cloneH X76 hx hZ hown (hw _ (List.mem_of_getElem? (i := 105) rfl)) (hw _ (List.mem_of_getElem? (i := 106) rfl)) (hw _ (List.mem_of_getElem? (i := 110) rfl)) (hw _ (List.mem_of_getElem? (i := 108) rfl)) (hw _ (List.mem_of_getElem? (i := 109) rfl)) (hw _ (List.mem_of_getElem? (i := 111) rfl)) e76 FF78 c77 (g := (mkF m 43 #[.val (.ref a), .val (.ref li), .val (.int (3 : Int32))] [(.ref el3), (.int (3 : Int32)), (.ref b3)])) rfl (by rw [hml]; rfl) rfl (hb hby d5_43) (by decide) (W := 2) (by show 2 * 0 + _ ≤ _; exact Nat.le_of_eq rfl) (by decide) (cap := 7) (own_cap h_ln3) (by decide) (by decide)
  have c80 := ((c59.ext E57).other W65 ne_el0_b3)
  have c81 := ((c60.ext E57).other W65 ne_el1_b3)
  have c82 := ((c58.ext E57).other W65 ne_el2_b3)
  have c83 := ((c62.ext E57).other W65 (Ne.symm ne_b3_b18))
  have c84 := ((c63.ext E57).other W65 (Ne.symm ne_b3_b37))
  have c85 := (Y57.other W65 (Ne.symm ne_b3_b57))
  obtain ⟨b78, g78⟩ : ∃ z, z = h65.size := ⟨_, rfl⟩
  rw [← g78] at A78 Ex78 st78
  have ne_li_b78 : li ≠ b78 := Nat.ne_of_lt (Nat.lt_of_lt_of_le c74.lt (Nat.le_of_eq g78.symm))
  have ne_a_b78 : a ≠ b78 := Nat.ne_of_lt (Nat.lt_of_lt_of_le c68.lt (Nat.le_of_eq g78.symm))
  have ne_t_b78 : t ≠ b78 := Nat.ne_of_lt (Nat.lt_of_lt_of_le c72.lt (Nat.le_of_eq g78.symm))
  have ne_el0_b78 : el0 ≠ b78 := Nat.ne_of_lt (Nat.lt_of_lt_of_le c80.lt (Nat.le_of_eq g78.symm))
  have ne_el1_b78 : el1 ≠ b78 := Nat.ne_of_lt (Nat.lt_of_lt_of_le c81.lt (Nat.le_of_eq g78.symm))
  have ne_el2_b78 : el2 ≠ b78 := Nat.ne_of_lt (Nat.lt_of_lt_of_le c82.lt (Nat.le_of_eq g78.symm))
  have ne_el3_b78 : el3 ≠ b78 := Nat.ne_of_lt (Nat.lt_of_lt_of_le c79.lt (Nat.le_of_eq g78.symm))
  have ne_b3_b78 : b3 ≠ b78 := Nat.ne_of_lt (Nat.lt_of_lt_of_le V65.lt (Nat.le_of_eq g78.symm))
  have ne_b18_b78 : b18 ≠ b78 := Nat.ne_of_lt (Nat.lt_of_lt_of_le c83.lt (Nat.le_of_eq g78.symm))
  have ne_b37_b78 : b37 ≠ b78 := Nat.ne_of_lt (Nat.lt_of_lt_of_le c84.lt (Nat.le_of_eq g78.symm))
  have ne_b57_b78 : b57 ≠ b78 := Nat.ne_of_lt (Nat.lt_of_lt_of_le c85.lt (Nat.le_of_eq g78.symm))
  have ge_b78 : n0 ≤ b78 := Nat.le_trans Z65 (Nat.le_of_eq g78.symm)
  have sz_b78 : h0.size ≤ b78 := Nat.le_trans (KK65).1 (Nat.le_of_eq g78.symm)
  have Z78 : n0 ≤ h78.size := Nat.le_trans Z65 E78.1
  have Y78 : IA Z h78 b78 ln3 := ⟨_, _, _, _, A78, Ex78⟩
  have KK78 : Keep h0 h78 [a] := (KK65).ext E78
  refine Done.st (B := T78.setTop (mkF m 46 #[.val (.ref a), .val (.ref li), .val (.int (3 : Int32))] [(.ref b78), (.int (3 : Int32)), (.ref b3)])) (fun _ k => st78 _ k) ?_
  obtain ⟨T86, X86, e86, st86⟩ := castY X78 hx hZ hown (hw _ (List.mem_of_getElem? (i := 45) rfl)) e78 (Ins.self Ex78) (g := (mkF m 46 #[.val (.ref a), .val (.ref li), .val (.int (3 : Int32))] [(.ref b78), (.int (3 : Int32)), (.ref b3)])) rfl rfl (hb hby d5_46)
  refine Done.st (B := T86.setTop (mkF m 49 #[.val (.ref a), .val (.ref li), .val (.int (3 : Int32))] [(.ref b78), (.int (3 : Int32)), (.ref b3)])) (fun _ k => st86 _ k) ?_
  have c88 := (V65.ext E78)
  obtain ⟨cl87, Ar87, q87, S87, M87, H87, G87⟩ := id c88
  have hin87 : ¬ ((3 : Int32) < 0 ∨ cl87.slots.size ≤ ((3 : Int32)).toNatClampNeg) := inb_of S87 ⟨by decide, by decide⟩
  obtain ⟨T87, h87, X87, e87, W87, st87⟩ := stR X86 hx hZ e86 Ar87 (j := (3 : Int32)) hin87 rfl (Sto.ofVA Ar87 q87 O3 (Ins.self Ex78)) (g := (mkF m 49 #[.val (.ref a), .val (.ref li), .val (.int (3 : Int32))] [(.ref b78), (.int (3 : Int32)), (.ref b3)])) rfl rfl (hb hby d5_49)
  have V87 : Arv Z h87 b3 k3 (.array .int) (4 : Int32) [(.ref b18), (.ref b37), (.ref b57), (.ref b78)] .null := Arv.set Ar87 q87 S87 M87 H87 G87 rfl W87 3 rfl (Nat.le_of_ble_eq_true rfl)
  have N87 := Fr.snoc X87 N75 ge_b3
  have Z87 : n0 ≤ h87.size := Nat.le_trans Z78 (Keep.of_wr W87).1
  have KK87 : Keep h0 h87 [a] := (KK78).wr W87 (Or.inr sz_b3)
  refine Done.st (B := T87.setTop (mkF m 50 #[.val (.ref a), .val (.ref li), .val (.int (3 : Int32))] [])) (fun _ k => st87 _ k) ?_
  refine Done.st (B := T87.setTop (mkF m 53 #[.val (.ref a), .val (.ref li), .val (.int (4 : Int32))] [])) (fun _ k => XS.iinc X87.here hx rfl (hb hby d5_50) rfl (l' := #[.val (.ref a), .val (.ref li), .val (.int (4 : Int32))]) rfl k) ?_
  refine Done.st (B := T87.setTop (mkF m 19 #[.val (.ref a), .val (.ref li), .val (.int (4 : Int32))] [])) (fun _ k => XS.goto X87.here hx rfl (pc0 := 53) (pc' := 19) rfl (hb hby d5_53) (by decide) (by decide) k) ?_
  refine Done.st (B := T87.setTop (mkF m 20 #[.val (.ref a), .val (.ref li), .val (.int (4 : Int32))] [(.int (4 : Int32))])) (fun _ k => XS.iloadN X87.here hx rfl (hb hby d5_19) rfl k) ?_
  refine Done.st (B := T87.setTop (mkF m 21 #[.val (.ref a), .val (.ref li), .val (.int (4 : Int32))] [(.ref a), (.int (4 : Int32))])) (fun _ k => XS.aloadN X87.here hx rfl (hb hby d5_20) rfl rfl k) ?_
  have c90 := (Fld.other W87 (Fld.ext E78 c68) (Or.inl ne_a_b3))
  obtain ⟨T89, X89, e89, st89⟩ := getF X87 hx hZ hown (host := "") (Or.inl (hw _ (List.mem_of_getElem? (i := 47) rfl))) Via.refl e87 c90 (g := (mkF m 21 #[.val (.ref a), .val (.ref li), .val (.int (4 : Int32))] [(.ref a), (.int (4 : Int32))])) rfl rfl (hb hby d5_21)
  refine Done.st (B := T89.setTop (mkF m 24 #[.val (.ref a), .val (.ref li), .val (.int (4 : Int32))] [(.ref b3), (.int (4 : Int32))])) (fun _ k => st89 _ k) ?_
  obtain ⟨cl91, Ar91, q91, S91, M91, -⟩ := id V87
  refine Done.st (B := T89.setTop (mkF m 25 #[.val (.ref a), .val (.ref li), .val (.int (4 : Int32))] [(.int (4 : Int32)), (.int (4 : Int32))])) (fun _ k => X89.arraylength hx (by rw [e89]; exact Ar91.1) (State.isArrayOf_alike hZ.alike Ar91.2.1) (g := (mkF m 24 #[.val (.ref a), .val (.ref li), .val (.int (4 : Int32))] [(.ref b3), (.int (4 : Int32))])) rfl rfl (hb hby d5_24) _ (by rw [len_of S91 M91]; exact k)) ?_
  refine Done.st (B := T89.setTop (mkF m 56 #[.val (.ref a), .val (.ref li), .val (.int (4 : Int32))] [])) (fun _ k => XS.icmpYes X89.here hx rfl (pc0 := 25) (pc' := 56) rfl (hb hby d5_25) rfl (flt (by decide : ¬ ((4 : Int32) < (4 : Int32)))).2.1 (by decide) (by decide) k) ?_
  obtain ⟨fs, hr, hrun, hended, hW, hsame⟩ := X89.leave (v := none) (hlocks := hlk) (fun _ => rfl)
  have c93 := (Exa.wr W87 (Exa.ext E78 (Exa.wr W65 (Exa.ext E57 (Exa.wr W44 (Exa.ext E37 (Exa.wr W24 (Exa.ext E18 (Exa.wr W6 c4)))))))))
  have c94 := ((c83.ext E78).other W87 (Ne.symm ne_b3_b18))
  have c95 := ((c84.ext E78).other W87 (Ne.symm ne_b3_b37))
  have c96 := ((c85.ext E78).other W87 (Ne.symm ne_b3_b57))
  have c97 := (Y78.other W87 (Ne.symm ne_b3_b78))
  refine Done.fin (X89.returnOut hx Bd.returns (hb hby d5_56) hr) hrun hended ⟨_, _, rfl, ?_, ⟨_, rfl⟩, hW, hsame.mono (by decide) (by decide)⟩
  show QrmSI_4 Z a li mc t kt el0 el1 el2 el3 ln0 ln1 ln2 ln3 h0 n0 _ T89.heap _
  rw [e89]
  exact ⟨b3, _, b18, b37, b57, b78, rfl, N87, KK87, sz_b3, c93, c90, V87, c94, c95, c96, c97⟩
theorem ef_rmIC_4 (m : MethodId) (a : Addr) : entryFrame m #[(.ref a)] 7 = mkF m 0 #[.val (.ref a), .unset, .unset, .unset, .unset, .unset, .unset] [] := by first | (simp [entryFrame, mkF, argsToLocals, Value.category]; done) | rfl
def QrmIC_4 (Z : State) (a : Addr) (u : Addr) (ku : ClassId) (ca0 : Addr) (ca1 : Addr) (ca2 : Addr) (ca3 : Addr) (ln0 : Int32) (ln1 : Int32) (ln2 : Int32) (ln3 : Int32) (h0 : Heap) (n0 : Nat) (v : Option Value) (h : Heap) (L : List Loc) : Prop := v = some (.long (((((0 : Int64) + (ln0.toInt64)) + (ln1.toInt64)) + (ln2.toInt64)) + (ln3.toInt64))) ∧ Fr n0 L ∧ h = h0
def PrmIC_4 (s : State) (Z : State) (a : Addr) (u : Addr) (ku : ClassId) (ca0 : Addr) (ca1 : Addr) (ca2 : Addr) (ca3 : Addr) (ln0 : Int32) (ln1 : Int32) (ln2 : Int32) (ln3 : Int32) (h0 : Heap) (n0 : Nat) : State → Outcome → Prop := fun U' o => ∃ v L, o = .returned v ∧ QrmIC_4 Z a u ku ca0 ca1 ca2 ca3 ln0 ln1 ln2 ln3 h0 n0 v U'.heap L ∧ FrameEnd s o U' L ({ frames := 0, cells := 0, slots := 0, locals := 0 } : Room).cells ({ frames := 0, cells := 0, slots := 0, locals := 0 } : Room).slots
set_option maxRecDepth 65536 in
set_option maxHeartbeats 40000000 in
theorem rmIC_4 (l : Launch) (Z : State) (a0 : Array Value) (hw : ∀ d ∈ tables_1, d.before a0 Z = true) (ws : List Jvm.Cond) (a : Addr) (u : Addr) (ku : ClassId) (ca0 : Addr) (ca1 : Addr) (ca2 : Addr) (ca3 : Addr) (ln0 : Int32) (ln1 : Int32) (ln2 : Int32) (ln3 : Int32) (h0 : Heap) (n0 : Nat) (Z0 : n0 ≤ h0.size) (Fa : Fld Z h0 a "com/example/percurso/percurso/suite/Suite" "tests" "[[I" (.ref u)) (Vu : Arv Z h0 u ku (.array .int) (4 : Int32) [(.ref ca0), (.ref ca1), (.ref ca2), (.ref ca3)] .null) (Y_ca0 : IA Z h0 ca0 ln0) (Y_ca1 : IA Z h0 ca1 ln1) (Y_ca2 : IA Z h0 ca2 ln2) (Y_ca3 : IA Z h0 ca3 ln3) :
    MetFree l (⟨"com/example/percurso/percurso/suite/Suite", "inputCount", "()J"⟩ : MethodName) (head1 (Jvm.Cond.code (⟨"com/example/percurso/percurso/suite/Suite", "inputCount", "()J"⟩ : MethodName) prog_192_method_7_code 7 (some .long) :: ws) ({ frames := 0, cells := 0, slots := 0, locals := 0 } : Room)) (fun aa U => aa = #[(.ref a)] ∧ Z.Warmed39 U.vm ∧ U.heap = h0) (fun _ _ _ _ _ => True) (fun _ U o U' => ∃ v L, o = .returned v ∧ QrmIC_4 Z a u ku ca0 ca1 ca2 ca3 ln0 ln1 ln2 ln3 h0 n0 v U'.heap L ∧ FrameEnd U o U' L ({ frames := 0, cells := 0, slots := 0, locals := 0 } : Room).cells ({ frames := 0, cells := 0, slots := 0, locals := 0 } : Room).slots) := by
  refine MetFree.of_bodySF (plainFor_of_name pn_5) hisR ?_
  intro p e s m args below meth c s₁ Bd hml0 hP hK
  obtain ⟨rfl, hZ, hh⟩ := hP
  have hx := Bd.exec
  have hlk : meth.locks = false := by first | exact BodyLoose.notSynchronized Bd | exact Body.notSynchronized Bd
  have hby := Bd.bytes
  have hml : c.maxLocals = 7 := hml0
  have hown : s.vm.findClass "com/example/percurso/percurso/suite/Suite" = some m.cls := findClass_of_methodNamed Bd.named
  have hnm := (name_of_methodNamed Bd.named Bd.method).1
  have X0 : Stand p l e ({ frames := 0, cells := 0, slots := 0, locals := 0 } : Room) s m #[(.ref a)] below meth c s₁ [] 0 0 := Stand.of_body Bd
  have e0 : s₁.heap = h0 := by rw [← hh, Bd.state]; rfl
  have N0 := Fr.nil n0
  show Done p e below (PrmIC_4 s Z a u ku ca0 ca1 ca2 ca3 ln0 ln1 ln2 ln3 h0 n0) (s₁.setTop (entryFrame m #[(.ref a)] 7))
  refine Done.st (B := s₁.setTop (mkF m 0 #[.val (.ref a), .unset, .unset, .unset, .unset, .unset, .unset] [])) (fun _ k => castTop (ef_rmIC_4 m a) k) ?_
  refine Done.st (B := s₁.setTop (mkF m 1 #[.val (.ref a), .unset, .unset, .unset, .unset, .unset, .unset] [(.long (0 : Int64))])) (fun _ k => XS.lconst X0.here hx rfl (hb hby d7_0) k) ?_
  refine Done.st (B := s₁.setTop (mkF m 2 #[.val (.ref a), .val (.long (0 : Int64)), .second, .unset, .unset, .unset, .unset] [])) (fun _ k => XS.lstoreN X0.here hx rfl (hb hby d7_1) rfl (l' := #[.val (.ref a), .val (.long (0 : Int64)), .second, .unset, .unset, .unset, .unset]) rfl k) ?_
  refine Done.st (B := s₁.setTop (mkF m 3 #[.val (.ref a), .val (.long (0 : Int64)), .second, .unset, .unset, .unset, .unset] [(.ref a)])) (fun _ k => XS.aloadN X0.here hx rfl (hb hby d7_2) rfl rfl k) ?_
  obtain ⟨T1, X1, e1, st1⟩ := getF X0 hx hZ hown (host := "") (Or.inl (hw _ (List.mem_of_getElem? (i := 47) rfl))) Via.refl e0 Fa (g := (mkF m 3 #[.val (.ref a), .val (.long (0 : Int64)), .second, .unset, .unset, .unset, .unset] [(.ref a)])) rfl rfl (hb hby d7_3)
  refine Done.st (B := T1.setTop (mkF m 6 #[.val (.ref a), .val (.long (0 : Int64)), .second, .unset, .unset, .unset, .unset] [(.ref u)])) (fun _ k => st1 _ k) ?_
  refine Done.st (B := T1.setTop (mkF m 7 #[.val (.ref a), .val (.long (0 : Int64)), .second, .val (.ref u), .unset, .unset, .unset] [])) (fun _ k => XS.astoreN X1.here hx rfl (hb hby d7_6) rfl rfl (l' := #[.val (.ref a), .val (.long (0 : Int64)), .second, .val (.ref u), .unset, .unset, .unset]) rfl k) ?_
  refine Done.st (B := T1.setTop (mkF m 8 #[.val (.ref a), .val (.long (0 : Int64)), .second, .val (.ref u), .unset, .unset, .unset] [(.ref u)])) (fun _ k => XS.aloadN X1.here hx rfl (hb hby d7_7) rfl rfl k) ?_
  obtain ⟨cl2, Ar2, q2, S2, M2, -⟩ := id Vu
  refine Done.st (B := T1.setTop (mkF m 9 #[.val (.ref a), .val (.long (0 : Int64)), .second, .val (.ref u), .unset, .unset, .unset] [(.int (4 : Int32))])) (fun _ k => X1.arraylength hx (by rw [e1]; exact Ar2.1) (State.isArrayOf_alike hZ.alike Ar2.2.1) (g := (mkF m 8 #[.val (.ref a), .val (.long (0 : Int64)), .second, .val (.ref u), .unset, .unset, .unset] [(.ref u)])) rfl rfl (hb hby d7_8) _ (by rw [len_of S2 M2]; exact k)) ?_
  refine Done.st (B := T1.setTop (mkF m 11 #[.val (.ref a), .val (.long (0 : Int64)), .second, .val (.ref u), .val (.int (4 : Int32)), .unset, .unset] [])) (fun _ k => XS.istore X1.here hx rfl (hb hby d7_9) rfl (l' := #[.val (.ref a), .val (.long (0 : Int64)), .second, .val (.ref u), .val (.int (4 : Int32)), .unset, .unset]) rfl k) ?_
  refine Done.st (B := T1.setTop (mkF m 12 #[.val (.ref a), .val (.long (0 : Int64)), .second, .val (.ref u), .val (.int (4 : Int32)), .unset, .unset] [(.int (0 : Int32))])) (fun _ k => XS.iconst X1.here hx rfl (hb hby d7_11) k) ?_
  refine Done.st (B := T1.setTop (mkF m 14 #[.val (.ref a), .val (.long (0 : Int64)), .second, .val (.ref u), .val (.int (4 : Int32)), .val (.int (0 : Int32)), .unset] [])) (fun _ k => XS.istore X1.here hx rfl (hb hby d7_12) rfl (l' := #[.val (.ref a), .val (.long (0 : Int64)), .second, .val (.ref u), .val (.int (4 : Int32)), .val (.int (0 : Int32)), .unset]) rfl k) ?_
  refine Done.st (B := T1.setTop (mkF m 16 #[.val (.ref a), .val (.long (0 : Int64)), .second, .val (.ref u), .val (.int (4 : Int32)), .val (.int (0 : Int32)), .unset] [(.int (0 : Int32))])) (fun _ k => XS.iload X1.here hx rfl (hb hby d7_14) rfl k) ?_
  refine Done.st (B := T1.setTop (mkF m 18 #[.val (.ref a), .val (.long (0 : Int64)), .second, .val (.ref u), .val (.int (4 : Int32)), .val (.int (0 : Int32)), .unset] [(.int (4 : Int32)), (.int (0 : Int32))])) (fun _ k => XS.iload X1.here hx rfl (hb hby d7_16) rfl k) ?_
  refine Done.st (B := T1.setTop (mkF m 21 #[.val (.ref a), .val (.long (0 : Int64)), .second, .val (.ref u), .val (.int (4 : Int32)), .val (.int (0 : Int32)), .unset] [])) (fun _ k => XS.icmpNo X1.here hx rfl (hb hby d7_18) rfl (tlt (by decide : (0 : Int32) < (4 : Int32))).2.1 k) ?_
  refine Done.st (B := T1.setTop (mkF m 22 #[.val (.ref a), .val (.long (0 : Int64)), .second, .val (.ref u), .val (.int (4 : Int32)), .val (.int (0 : Int32)), .unset] [(.ref u)])) (fun _ k => XS.aloadN X1.here hx rfl (hb hby d7_21) rfl rfl k) ?_
  refine Done.st (B := T1.setTop (mkF m 24 #[.val (.ref a), .val (.long (0 : Int64)), .second, .val (.ref u), .val (.int (4 : Int32)), .val (.int (0 : Int32)), .unset] [(.int (0 : Int32)), (.ref u)])) (fun _ k => XS.iload X1.here hx rfl (hb hby d7_22) rfl k) ?_
  obtain ⟨cl3, Ar3, q3, S3, M3, H3, G3⟩ := id Vu
  have hin3 : ¬ ((0 : Int32) < 0 ∨ cl3.slots.size ≤ ((0 : Int32)).toNatClampNeg) := inb_of S3 ⟨by decide, by decide⟩
  have hat3 : cl3.slots[((0 : Int32)).toNatClampNeg]? = some (.ref ca0) := Has.at H3 hin3 rfl
  refine Done.st (B := T1.setTop (mkF m 25 #[.val (.ref a), .val (.long (0 : Int64)), .second, .val (.ref u), .val (.int (4 : Int32)), .val (.int (0 : Int32)), .unset] [(.ref ca0)])) (fun _ k => X1.aaload hx (j := (0 : Int32)) (v := (.ref ca0)) (by rw [e1]; exact Ar3.1) (State.isArrayOf_alike hZ.alike Ar3.2.1) rfl Ar3.2.2 hin3 hat3 (g := (mkF m 24 #[.val (.ref a), .val (.long (0 : Int64)), .second, .val (.ref u), .val (.int (4 : Int32)), .val (.int (0 : Int32)), .unset] [(.int (0 : Int32)), (.ref u)])) rfl rfl (hb hby d7_24) _ k) ?_
  refine Done.st (B := T1.setTop (mkF m 27 #[.val (.ref a), .val (.long (0 : Int64)), .second, .val (.ref u), .val (.int (4 : Int32)), .val (.int (0 : Int32)), .val (.ref ca0)] [])) (fun _ k => XS.astore X1.here hx rfl (hb hby d7_25) rfl rfl (l' := #[.val (.ref a), .val (.long (0 : Int64)), .second, .val (.ref u), .val (.int (4 : Int32)), .val (.int (0 : Int32)), .val (.ref ca0)]) rfl k) ?_
  refine Done.st (B := T1.setTop (mkF m 28 #[.val (.ref a), .val (.long (0 : Int64)), .second, .val (.ref u), .val (.int (4 : Int32)), .val (.int (0 : Int32)), .val (.ref ca0)] [(.long (0 : Int64))])) (fun _ k => XS.lloadN X1.here hx rfl (hb hby d7_27) rfl k) ?_
  refine Done.st (B := T1.setTop (mkF m 30 #[.val (.ref a), .val (.long (0 : Int64)), .second, .val (.ref u), .val (.int (4 : Int32)), .val (.int (0 : Int32)), .val (.ref ca0)] [(.ref ca0), (.long (0 : Int64))])) (fun _ k => XS.aload X1.here hx rfl (hb hby d7_28) rfl rfl k) ?_
  obtain ⟨kk4, hs4, vs4, dv4, FF4, -⟩ := id Y_ca0
  obtain ⟨cl4, Ar4, q4, S4, M4, -⟩ := id FF4
  refine Done.st (B := T1.setTop (mkF m 31 #[.val (.ref a), .val (.long (0 : Int64)), .second, .val (.ref u), .val (.int (4 : Int32)), .val (.int (0 : Int32)), .val (.ref ca0)] [(.int ln0), (.long (0 : Int64))])) (fun _ k => X1.arraylength hx (by rw [e1]; exact Ar4.1) (State.isArrayOf_alike hZ.alike Ar4.2.1) (g := (mkF m 30 #[.val (.ref a), .val (.long (0 : Int64)), .second, .val (.ref u), .val (.int (4 : Int32)), .val (.int (0 : Int32)), .val (.ref ca0)] [(.ref ca0), (.long (0 : Int64))])) rfl rfl (hb hby d7_30) _ (by rw [len_of S4 M4]; exact k)) ?_
  refine Done.st (B := T1.setTop (mkF m 32 #[.val (.ref a), .val (.long (0 : Int64)), .second, .val (.ref u), .val (.int (4 : Int32)), .val (.int (0 : Int32)), .val (.ref ca0)] [(.long (ln0.toInt64)), (.long (0 : Int64))])) (fun _ k => XS.i2l X1.here hx rfl (hb hby d7_31) rfl k) ?_
  refine Done.st (B := T1.setTop (mkF m 33 #[.val (.ref a), .val (.long (0 : Int64)), .second, .val (.ref u), .val (.int (4 : Int32)), .val (.int (0 : Int32)), .val (.ref ca0)] [(.long ((0 : Int64) + (ln0.toInt64)))])) (fun _ k => XS.ladd X1.here hx rfl (hb hby d7_32) rfl k) ?_
  refine Done.st (B := T1.setTop (mkF m 34 #[.val (.ref a), .val (.long ((0 : Int64) + (ln0.toInt64))), .second, .val (.ref u), .val (.int (4 : Int32)), .val (.int (0 : Int32)), .val (.ref ca0)] [])) (fun _ k => XS.lstoreN X1.here hx rfl (hb hby d7_33) rfl (l' := #[.val (.ref a), .val (.long ((0 : Int64) + (ln0.toInt64))), .second, .val (.ref u), .val (.int (4 : Int32)), .val (.int (0 : Int32)), .val (.ref ca0)]) rfl k) ?_
  refine Done.st (B := T1.setTop (mkF m 37 #[.val (.ref a), .val (.long ((0 : Int64) + (ln0.toInt64))), .second, .val (.ref u), .val (.int (4 : Int32)), .val (.int (1 : Int32)), .val (.ref ca0)] [])) (fun _ k => XS.iinc X1.here hx rfl (hb hby d7_34) rfl (l' := #[.val (.ref a), .val (.long ((0 : Int64) + (ln0.toInt64))), .second, .val (.ref u), .val (.int (4 : Int32)), .val (.int (1 : Int32)), .val (.ref ca0)]) rfl k) ?_
  refine Done.st (B := T1.setTop (mkF m 14 #[.val (.ref a), .val (.long ((0 : Int64) + (ln0.toInt64))), .second, .val (.ref u), .val (.int (4 : Int32)), .val (.int (1 : Int32)), .val (.ref ca0)] [])) (fun _ k => XS.goto X1.here hx rfl (pc0 := 37) (pc' := 14) rfl (hb hby d7_37) (by decide) (by decide) k) ?_
  refine Done.st (B := T1.setTop (mkF m 16 #[.val (.ref a), .val (.long ((0 : Int64) + (ln0.toInt64))), .second, .val (.ref u), .val (.int (4 : Int32)), .val (.int (1 : Int32)), .val (.ref ca0)] [(.int (1 : Int32))])) (fun _ k => XS.iload X1.here hx rfl (hb hby d7_14) rfl k) ?_
  refine Done.st (B := T1.setTop (mkF m 18 #[.val (.ref a), .val (.long ((0 : Int64) + (ln0.toInt64))), .second, .val (.ref u), .val (.int (4 : Int32)), .val (.int (1 : Int32)), .val (.ref ca0)] [(.int (4 : Int32)), (.int (1 : Int32))])) (fun _ k => XS.iload X1.here hx rfl (hb hby d7_16) rfl k) ?_
  refine Done.st (B := T1.setTop (mkF m 21 #[.val (.ref a), .val (.long ((0 : Int64) + (ln0.toInt64))), .second, .val (.ref u), .val (.int (4 : Int32)), .val (.int (1 : Int32)), .val (.ref ca0)] [])) (fun _ k => XS.icmpNo X1.here hx rfl (hb hby d7_18) rfl (tlt (by decide : (1 : Int32) < (4 : Int32))).2.1 k) ?_
  refine Done.st (B := T1.setTop (mkF m 22 #[.val (.ref a), .val (.long ((0 : Int64) + (ln0.toInt64))), .second, .val (.ref u), .val (.int (4 : Int32)), .val (.int (1 : Int32)), .val (.ref ca0)] [(.ref u)])) (fun _ k => XS.aloadN X1.here hx rfl (hb hby d7_21) rfl rfl k) ?_
  refine Done.st (B := T1.setTop (mkF m 24 #[.val (.ref a), .val (.long ((0 : Int64) + (ln0.toInt64))), .second, .val (.ref u), .val (.int (4 : Int32)), .val (.int (1 : Int32)), .val (.ref ca0)] [(.int (1 : Int32)), (.ref u)])) (fun _ k => XS.iload X1.here hx rfl (hb hby d7_22) rfl k) ?_
  obtain ⟨cl5, Ar5, q5, S5, M5, H5, G5⟩ := id Vu
  have hin5 : ¬ ((1 : Int32) < 0 ∨ cl5.slots.size ≤ ((1 : Int32)).toNatClampNeg) := inb_of S5 ⟨by decide, by decide⟩
  have hat5 : cl5.slots[((1 : Int32)).toNatClampNeg]? = some (.ref ca1) := Has.at H5 hin5 rfl
  refine Done.st (B := T1.setTop (mkF m 25 #[.val (.ref a), .val (.long ((0 : Int64) + (ln0.toInt64))), .second, .val (.ref u), .val (.int (4 : Int32)), .val (.int (1 : Int32)), .val (.ref ca0)] [(.ref ca1)])) (fun _ k => X1.aaload hx (j := (1 : Int32)) (v := (.ref ca1)) (by rw [e1]; exact Ar5.1) (State.isArrayOf_alike hZ.alike Ar5.2.1) rfl Ar5.2.2 hin5 hat5 (g := (mkF m 24 #[.val (.ref a), .val (.long ((0 : Int64) + (ln0.toInt64))), .second, .val (.ref u), .val (.int (4 : Int32)), .val (.int (1 : Int32)), .val (.ref ca0)] [(.int (1 : Int32)), (.ref u)])) rfl rfl (hb hby d7_24) _ k) ?_
  refine Done.st (B := T1.setTop (mkF m 27 #[.val (.ref a), .val (.long ((0 : Int64) + (ln0.toInt64))), .second, .val (.ref u), .val (.int (4 : Int32)), .val (.int (1 : Int32)), .val (.ref ca1)] [])) (fun _ k => XS.astore X1.here hx rfl (hb hby d7_25) rfl rfl (l' := #[.val (.ref a), .val (.long ((0 : Int64) + (ln0.toInt64))), .second, .val (.ref u), .val (.int (4 : Int32)), .val (.int (1 : Int32)), .val (.ref ca1)]) rfl k) ?_
  refine Done.st (B := T1.setTop (mkF m 28 #[.val (.ref a), .val (.long ((0 : Int64) + (ln0.toInt64))), .second, .val (.ref u), .val (.int (4 : Int32)), .val (.int (1 : Int32)), .val (.ref ca1)] [(.long ((0 : Int64) + (ln0.toInt64)))])) (fun _ k => XS.lloadN X1.here hx rfl (hb hby d7_27) rfl k) ?_
  refine Done.st (B := T1.setTop (mkF m 30 #[.val (.ref a), .val (.long ((0 : Int64) + (ln0.toInt64))), .second, .val (.ref u), .val (.int (4 : Int32)), .val (.int (1 : Int32)), .val (.ref ca1)] [(.ref ca1), (.long ((0 : Int64) + (ln0.toInt64)))])) (fun _ k => XS.aload X1.here hx rfl (hb hby d7_28) rfl rfl k) ?_
  obtain ⟨kk6, hs6, vs6, dv6, FF6, -⟩ := id Y_ca1
  obtain ⟨cl6, Ar6, q6, S6, M6, -⟩ := id FF6
  refine Done.st (B := T1.setTop (mkF m 31 #[.val (.ref a), .val (.long ((0 : Int64) + (ln0.toInt64))), .second, .val (.ref u), .val (.int (4 : Int32)), .val (.int (1 : Int32)), .val (.ref ca1)] [(.int ln1), (.long ((0 : Int64) + (ln0.toInt64)))])) (fun _ k => X1.arraylength hx (by rw [e1]; exact Ar6.1) (State.isArrayOf_alike hZ.alike Ar6.2.1) (g := (mkF m 30 #[.val (.ref a), .val (.long ((0 : Int64) + (ln0.toInt64))), .second, .val (.ref u), .val (.int (4 : Int32)), .val (.int (1 : Int32)), .val (.ref ca1)] [(.ref ca1), (.long ((0 : Int64) + (ln0.toInt64)))])) rfl rfl (hb hby d7_30) _ (by rw [len_of S6 M6]; exact k)) ?_
  refine Done.st (B := T1.setTop (mkF m 32 #[.val (.ref a), .val (.long ((0 : Int64) + (ln0.toInt64))), .second, .val (.ref u), .val (.int (4 : Int32)), .val (.int (1 : Int32)), .val (.ref ca1)] [(.long (ln1.toInt64)), (.long ((0 : Int64) + (ln0.toInt64)))])) (fun _ k => XS.i2l X1.here hx rfl (hb hby d7_31) rfl k) ?_
  refine Done.st (B := T1.setTop (mkF m 33 #[.val (.ref a), .val (.long ((0 : Int64) + (ln0.toInt64))), .second, .val (.ref u), .val (.int (4 : Int32)), .val (.int (1 : Int32)), .val (.ref ca1)] [(.long (((0 : Int64) + (ln0.toInt64)) + (ln1.toInt64)))])) (fun _ k => XS.ladd X1.here hx rfl (hb hby d7_32) rfl k) ?_
  refine Done.st (B := T1.setTop (mkF m 34 #[.val (.ref a), .val (.long (((0 : Int64) + (ln0.toInt64)) + (ln1.toInt64))), .second, .val (.ref u), .val (.int (4 : Int32)), .val (.int (1 : Int32)), .val (.ref ca1)] [])) (fun _ k => XS.lstoreN X1.here hx rfl (hb hby d7_33) rfl (l' := #[.val (.ref a), .val (.long (((0 : Int64) + (ln0.toInt64)) + (ln1.toInt64))), .second, .val (.ref u), .val (.int (4 : Int32)), .val (.int (1 : Int32)), .val (.ref ca1)]) rfl k) ?_
  refine Done.st (B := T1.setTop (mkF m 37 #[.val (.ref a), .val (.long (((0 : Int64) + (ln0.toInt64)) + (ln1.toInt64))), .second, .val (.ref u), .val (.int (4 : Int32)), .val (.int (2 : Int32)), .val (.ref ca1)] [])) (fun _ k => XS.iinc X1.here hx rfl (hb hby d7_34) rfl (l' := #[.val (.ref a), .val (.long (((0 : Int64) + (ln0.toInt64)) + (ln1.toInt64))), .second, .val (.ref u), .val (.int (4 : Int32)), .val (.int (2 : Int32)), .val (.ref ca1)]) rfl k) ?_
  refine Done.st (B := T1.setTop (mkF m 14 #[.val (.ref a), .val (.long (((0 : Int64) + (ln0.toInt64)) + (ln1.toInt64))), .second, .val (.ref u), .val (.int (4 : Int32)), .val (.int (2 : Int32)), .val (.ref ca1)] [])) (fun _ k => XS.goto X1.here hx rfl (pc0 := 37) (pc' := 14) rfl (hb hby d7_37) (by decide) (by decide) k) ?_
  refine Done.st (B := T1.setTop (mkF m 16 #[.val (.ref a), .val (.long (((0 : Int64) + (ln0.toInt64)) + (ln1.toInt64))), .second, .val (.ref u), .val (.int (4 : Int32)), .val (.int (2 : Int32)), .val (.ref ca1)] [(.int (2 : Int32))])) (fun _ k => XS.iload X1.here hx rfl (hb hby d7_14) rfl k) ?_
  refine Done.st (B := T1.setTop (mkF m 18 #[.val (.ref a), .val (.long (((0 : Int64) + (ln0.toInt64)) + (ln1.toInt64))), .second, .val (.ref u), .val (.int (4 : Int32)), .val (.int (2 : Int32)), .val (.ref ca1)] [(.int (4 : Int32)), (.int (2 : Int32))])) (fun _ k => XS.iload X1.here hx rfl (hb hby d7_16) rfl k) ?_
  refine Done.st (B := T1.setTop (mkF m 21 #[.val (.ref a), .val (.long (((0 : Int64) + (ln0.toInt64)) + (ln1.toInt64))), .second, .val (.ref u), .val (.int (4 : Int32)), .val (.int (2 : Int32)), .val (.ref ca1)] [])) (fun _ k => XS.icmpNo X1.here hx rfl (hb hby d7_18) rfl (tlt (by decide : (2 : Int32) < (4 : Int32))).2.1 k) ?_
  refine Done.st (B := T1.setTop (mkF m 22 #[.val (.ref a), .val (.long (((0 : Int64) + (ln0.toInt64)) + (ln1.toInt64))), .second, .val (.ref u), .val (.int (4 : Int32)), .val (.int (2 : Int32)), .val (.ref ca1)] [(.ref u)])) (fun _ k => XS.aloadN X1.here hx rfl (hb hby d7_21) rfl rfl k) ?_
  refine Done.st (B := T1.setTop (mkF m 24 #[.val (.ref a), .val (.long (((0 : Int64) + (ln0.toInt64)) + (ln1.toInt64))), .second, .val (.ref u), .val (.int (4 : Int32)), .val (.int (2 : Int32)), .val (.ref ca1)] [(.int (2 : Int32)), (.ref u)])) (fun _ k => XS.iload X1.here hx rfl (hb hby d7_22) rfl k) ?_
  obtain ⟨cl7, Ar7, q7, S7, M7, H7, G7⟩ := id Vu
  have hin7 : ¬ ((2 : Int32) < 0 ∨ cl7.slots.size ≤ ((2 : Int32)).toNatClampNeg) := inb_of S7 ⟨by decide, by decide⟩
  have hat7 : cl7.slots[((2 : Int32)).toNatClampNeg]? = some (.ref ca2) := Has.at H7 hin7 rfl
  refine Done.st (B := T1.setTop (mkF m 25 #[.val (.ref a), .val (.long (((0 : Int64) + (ln0.toInt64)) + (ln1.toInt64))), .second, .val (.ref u), .val (.int (4 : Int32)), .val (.int (2 : Int32)), .val (.ref ca1)] [(.ref ca2)])) (fun _ k => X1.aaload hx (j := (2 : Int32)) (v := (.ref ca2)) (by rw [e1]; exact Ar7.1) (State.isArrayOf_alike hZ.alike Ar7.2.1) rfl Ar7.2.2 hin7 hat7 (g := (mkF m 24 #[.val (.ref a), .val (.long (((0 : Int64) + (ln0.toInt64)) + (ln1.toInt64))), .second, .val (.ref u), .val (.int (4 : Int32)), .val (.int (2 : Int32)), .val (.ref ca1)] [(.int (2 : Int32)), (.ref u)])) rfl rfl (hb hby d7_24) _ k) ?_
  refine Done.st (B := T1.setTop (mkF m 27 #[.val (.ref a), .val (.long (((0 : Int64) + (ln0.toInt64)) + (ln1.toInt64))), .second, .val (.ref u), .val (.int (4 : Int32)), .val (.int (2 : Int32)), .val (.ref ca2)] [])) (fun _ k => XS.astore X1.here hx rfl (hb hby d7_25) rfl rfl (l' := #[.val (.ref a), .val (.long (((0 : Int64) + (ln0.toInt64)) + (ln1.toInt64))), .second, .val (.ref u), .val (.int (4 : Int32)), .val (.int (2 : Int32)), .val (.ref ca2)]) rfl k) ?_
  refine Done.st (B := T1.setTop (mkF m 28 #[.val (.ref a), .val (.long (((0 : Int64) + (ln0.toInt64)) + (ln1.toInt64))), .second, .val (.ref u), .val (.int (4 : Int32)), .val (.int (2 : Int32)), .val (.ref ca2)] [(.long (((0 : Int64) + (ln0.toInt64)) + (ln1.toInt64)))])) (fun _ k => XS.lloadN X1.here hx rfl (hb hby d7_27) rfl k) ?_
  refine Done.st (B := T1.setTop (mkF m 30 #[.val (.ref a), .val (.long (((0 : Int64) + (ln0.toInt64)) + (ln1.toInt64))), .second, .val (.ref u), .val (.int (4 : Int32)), .val (.int (2 : Int32)), .val (.ref ca2)] [(.ref ca2), (.long (((0 : Int64) + (ln0.toInt64)) + (ln1.toInt64)))])) (fun _ k => XS.aload X1.here hx rfl (hb hby d7_28) rfl rfl k) ?_
  obtain ⟨kk8, hs8, vs8, dv8, FF8, -⟩ := id Y_ca2
  obtain ⟨cl8, Ar8, q8, S8, M8, -⟩ := id FF8
  refine Done.st (B := T1.setTop (mkF m 31 #[.val (.ref a), .val (.long (((0 : Int64) + (ln0.toInt64)) + (ln1.toInt64))), .second, .val (.ref u), .val (.int (4 : Int32)), .val (.int (2 : Int32)), .val (.ref ca2)] [(.int ln2), (.long (((0 : Int64) + (ln0.toInt64)) + (ln1.toInt64)))])) (fun _ k => X1.arraylength hx (by rw [e1]; exact Ar8.1) (State.isArrayOf_alike hZ.alike Ar8.2.1) (g := (mkF m 30 #[.val (.ref a), .val (.long (((0 : Int64) + (ln0.toInt64)) + (ln1.toInt64))), .second, .val (.ref u), .val (.int (4 : Int32)), .val (.int (2 : Int32)), .val (.ref ca2)] [(.ref ca2), (.long (((0 : Int64) + (ln0.toInt64)) + (ln1.toInt64)))])) rfl rfl (hb hby d7_30) _ (by rw [len_of S8 M8]; exact k)) ?_
  refine Done.st (B := T1.setTop (mkF m 32 #[.val (.ref a), .val (.long (((0 : Int64) + (ln0.toInt64)) + (ln1.toInt64))), .second, .val (.ref u), .val (.int (4 : Int32)), .val (.int (2 : Int32)), .val (.ref ca2)] [(.long (ln2.toInt64)), (.long (((0 : Int64) + (ln0.toInt64)) + (ln1.toInt64)))])) (fun _ k => XS.i2l X1.here hx rfl (hb hby d7_31) rfl k) ?_
  refine Done.st (B := T1.setTop (mkF m 33 #[.val (.ref a), .val (.long (((0 : Int64) + (ln0.toInt64)) + (ln1.toInt64))), .second, .val (.ref u), .val (.int (4 : Int32)), .val (.int (2 : Int32)), .val (.ref ca2)] [(.long ((((0 : Int64) + (ln0.toInt64)) + (ln1.toInt64)) + (ln2.toInt64)))])) (fun _ k => XS.ladd X1.here hx rfl (hb hby d7_32) rfl k) ?_
  refine Done.st (B := T1.setTop (mkF m 34 #[.val (.ref a), .val (.long ((((0 : Int64) + (ln0.toInt64)) + (ln1.toInt64)) + (ln2.toInt64))), .second, .val (.ref u), .val (.int (4 : Int32)), .val (.int (2 : Int32)), .val (.ref ca2)] [])) (fun _ k => XS.lstoreN X1.here hx rfl (hb hby d7_33) rfl (l' := #[.val (.ref a), .val (.long ((((0 : Int64) + (ln0.toInt64)) + (ln1.toInt64)) + (ln2.toInt64))), .second, .val (.ref u), .val (.int (4 : Int32)), .val (.int (2 : Int32)), .val (.ref ca2)]) rfl k) ?_
  refine Done.st (B := T1.setTop (mkF m 37 #[.val (.ref a), .val (.long ((((0 : Int64) + (ln0.toInt64)) + (ln1.toInt64)) + (ln2.toInt64))), .second, .val (.ref u), .val (.int (4 : Int32)), .val (.int (3 : Int32)), .val (.ref ca2)] [])) (fun _ k => XS.iinc X1.here hx rfl (hb hby d7_34) rfl (l' := #[.val (.ref a), .val (.long ((((0 : Int64) + (ln0.toInt64)) + (ln1.toInt64)) + (ln2.toInt64))), .second, .val (.ref u), .val (.int (4 : Int32)), .val (.int (3 : Int32)), .val (.ref ca2)]) rfl k) ?_
  refine Done.st (B := T1.setTop (mkF m 14 #[.val (.ref a), .val (.long ((((0 : Int64) + (ln0.toInt64)) + (ln1.toInt64)) + (ln2.toInt64))), .second, .val (.ref u), .val (.int (4 : Int32)), .val (.int (3 : Int32)), .val (.ref ca2)] [])) (fun _ k => XS.goto X1.here hx rfl (pc0 := 37) (pc' := 14) rfl (hb hby d7_37) (by decide) (by decide) k) ?_
  refine Done.st (B := T1.setTop (mkF m 16 #[.val (.ref a), .val (.long ((((0 : Int64) + (ln0.toInt64)) + (ln1.toInt64)) + (ln2.toInt64))), .second, .val (.ref u), .val (.int (4 : Int32)), .val (.int (3 : Int32)), .val (.ref ca2)] [(.int (3 : Int32))])) (fun _ k => XS.iload X1.here hx rfl (hb hby d7_14) rfl k) ?_
  refine Done.st (B := T1.setTop (mkF m 18 #[.val (.ref a), .val (.long ((((0 : Int64) + (ln0.toInt64)) + (ln1.toInt64)) + (ln2.toInt64))), .second, .val (.ref u), .val (.int (4 : Int32)), .val (.int (3 : Int32)), .val (.ref ca2)] [(.int (4 : Int32)), (.int (3 : Int32))])) (fun _ k => XS.iload X1.here hx rfl (hb hby d7_16) rfl k) ?_
  refine Done.st (B := T1.setTop (mkF m 21 #[.val (.ref a), .val (.long ((((0 : Int64) + (ln0.toInt64)) + (ln1.toInt64)) + (ln2.toInt64))), .second, .val (.ref u), .val (.int (4 : Int32)), .val (.int (3 : Int32)), .val (.ref ca2)] [])) (fun _ k => XS.icmpNo X1.here hx rfl (hb hby d7_18) rfl (tlt (by decide : (3 : Int32) < (4 : Int32))).2.1 k) ?_
  refine Done.st (B := T1.setTop (mkF m 22 #[.val (.ref a), .val (.long ((((0 : Int64) + (ln0.toInt64)) + (ln1.toInt64)) + (ln2.toInt64))), .second, .val (.ref u), .val (.int (4 : Int32)), .val (.int (3 : Int32)), .val (.ref ca2)] [(.ref u)])) (fun _ k => XS.aloadN X1.here hx rfl (hb hby d7_21) rfl rfl k) ?_
  refine Done.st (B := T1.setTop (mkF m 24 #[.val (.ref a), .val (.long ((((0 : Int64) + (ln0.toInt64)) + (ln1.toInt64)) + (ln2.toInt64))), .second, .val (.ref u), .val (.int (4 : Int32)), .val (.int (3 : Int32)), .val (.ref ca2)] [(.int (3 : Int32)), (.ref u)])) (fun _ k => XS.iload X1.here hx rfl (hb hby d7_22) rfl k) ?_
  obtain ⟨cl9, Ar9, q9, S9, M9, H9, G9⟩ := id Vu
  have hin9 : ¬ ((3 : Int32) < 0 ∨ cl9.slots.size ≤ ((3 : Int32)).toNatClampNeg) := inb_of S9 ⟨by decide, by decide⟩
  have hat9 : cl9.slots[((3 : Int32)).toNatClampNeg]? = some (.ref ca3) := Has.at H9 hin9 rfl
  refine Done.st (B := T1.setTop (mkF m 25 #[.val (.ref a), .val (.long ((((0 : Int64) + (ln0.toInt64)) + (ln1.toInt64)) + (ln2.toInt64))), .second, .val (.ref u), .val (.int (4 : Int32)), .val (.int (3 : Int32)), .val (.ref ca2)] [(.ref ca3)])) (fun _ k => X1.aaload hx (j := (3 : Int32)) (v := (.ref ca3)) (by rw [e1]; exact Ar9.1) (State.isArrayOf_alike hZ.alike Ar9.2.1) rfl Ar9.2.2 hin9 hat9 (g := (mkF m 24 #[.val (.ref a), .val (.long ((((0 : Int64) + (ln0.toInt64)) + (ln1.toInt64)) + (ln2.toInt64))), .second, .val (.ref u), .val (.int (4 : Int32)), .val (.int (3 : Int32)), .val (.ref ca2)] [(.int (3 : Int32)), (.ref u)])) rfl rfl (hb hby d7_24) _ k) ?_
  refine Done.st (B := T1.setTop (mkF m 27 #[.val (.ref a), .val (.long ((((0 : Int64) + (ln0.toInt64)) + (ln1.toInt64)) + (ln2.toInt64))), .second, .val (.ref u), .val (.int (4 : Int32)), .val (.int (3 : Int32)), .val (.ref ca3)] [])) (fun _ k => XS.astore X1.here hx rfl (hb hby d7_25) rfl rfl (l' := #[.val (.ref a), .val (.long ((((0 : Int64) + (ln0.toInt64)) + (ln1.toInt64)) + (ln2.toInt64))), .second, .val (.ref u), .val (.int (4 : Int32)), .val (.int (3 : Int32)), .val (.ref ca3)]) rfl k) ?_
  refine Done.st (B := T1.setTop (mkF m 28 #[.val (.ref a), .val (.long ((((0 : Int64) + (ln0.toInt64)) + (ln1.toInt64)) + (ln2.toInt64))), .second, .val (.ref u), .val (.int (4 : Int32)), .val (.int (3 : Int32)), .val (.ref ca3)] [(.long ((((0 : Int64) + (ln0.toInt64)) + (ln1.toInt64)) + (ln2.toInt64)))])) (fun _ k => XS.lloadN X1.here hx rfl (hb hby d7_27) rfl k) ?_
  refine Done.st (B := T1.setTop (mkF m 30 #[.val (.ref a), .val (.long ((((0 : Int64) + (ln0.toInt64)) + (ln1.toInt64)) + (ln2.toInt64))), .second, .val (.ref u), .val (.int (4 : Int32)), .val (.int (3 : Int32)), .val (.ref ca3)] [(.ref ca3), (.long ((((0 : Int64) + (ln0.toInt64)) + (ln1.toInt64)) + (ln2.toInt64)))])) (fun _ k => XS.aload X1.here hx rfl (hb hby d7_28) rfl rfl k) ?_
  obtain ⟨kk10, hs10, vs10, dv10, FF10, -⟩ := id Y_ca3
  obtain ⟨cl10, Ar10, q10, S10, M10, -⟩ := id FF10
  refine Done.st (B := T1.setTop (mkF m 31 #[.val (.ref a), .val (.long ((((0 : Int64) + (ln0.toInt64)) + (ln1.toInt64)) + (ln2.toInt64))), .second, .val (.ref u), .val (.int (4 : Int32)), .val (.int (3 : Int32)), .val (.ref ca3)] [(.int ln3), (.long ((((0 : Int64) + (ln0.toInt64)) + (ln1.toInt64)) + (ln2.toInt64)))])) (fun _ k => X1.arraylength hx (by rw [e1]; exact Ar10.1) (State.isArrayOf_alike hZ.alike Ar10.2.1) (g := (mkF m 30 #[.val (.ref a), .val (.long ((((0 : Int64) + (ln0.toInt64)) + (ln1.toInt64)) + (ln2.toInt64))), .second, .val (.ref u), .val (.int (4 : Int32)), .val (.int (3 : Int32)), .val (.ref ca3)] [(.ref ca3), (.long ((((0 : Int64) + (ln0.toInt64)) + (ln1.toInt64)) + (ln2.toInt64)))])) rfl rfl (hb hby d7_30) _ (by rw [len_of S10 M10]; exact k)) ?_
  refine Done.st (B := T1.setTop (mkF m 32 #[.val (.ref a), .val (.long ((((0 : Int64) + (ln0.toInt64)) + (ln1.toInt64)) + (ln2.toInt64))), .second, .val (.ref u), .val (.int (4 : Int32)), .val (.int (3 : Int32)), .val (.ref ca3)] [(.long (ln3.toInt64)), (.long ((((0 : Int64) + (ln0.toInt64)) + (ln1.toInt64)) + (ln2.toInt64)))])) (fun _ k => XS.i2l X1.here hx rfl (hb hby d7_31) rfl k) ?_
  refine Done.st (B := T1.setTop (mkF m 33 #[.val (.ref a), .val (.long ((((0 : Int64) + (ln0.toInt64)) + (ln1.toInt64)) + (ln2.toInt64))), .second, .val (.ref u), .val (.int (4 : Int32)), .val (.int (3 : Int32)), .val (.ref ca3)] [(.long (((((0 : Int64) + (ln0.toInt64)) + (ln1.toInt64)) + (ln2.toInt64)) + (ln3.toInt64)))])) (fun _ k => XS.ladd X1.here hx rfl (hb hby d7_32) rfl k) ?_
  refine Done.st (B := T1.setTop (mkF m 34 #[.val (.ref a), .val (.long (((((0 : Int64) + (ln0.toInt64)) + (ln1.toInt64)) + (ln2.toInt64)) + (ln3.toInt64))), .second, .val (.ref u), .val (.int (4 : Int32)), .val (.int (3 : Int32)), .val (.ref ca3)] [])) (fun _ k => XS.lstoreN X1.here hx rfl (hb hby d7_33) rfl (l' := #[.val (.ref a), .val (.long (((((0 : Int64) + (ln0.toInt64)) + (ln1.toInt64)) + (ln2.toInt64)) + (ln3.toInt64))), .second, .val (.ref u), .val (.int (4 : Int32)), .val (.int (3 : Int32)), .val (.ref ca3)]) rfl k) ?_
  refine Done.st (B := T1.setTop (mkF m 37 #[.val (.ref a), .val (.long (((((0 : Int64) + (ln0.toInt64)) + (ln1.toInt64)) + (ln2.toInt64)) + (ln3.toInt64))), .second, .val (.ref u), .val (.int (4 : Int32)), .val (.int (4 : Int32)), .val (.ref ca3)] [])) (fun _ k => XS.iinc X1.here hx rfl (hb hby d7_34) rfl (l' := #[.val (.ref a), .val (.long (((((0 : Int64) + (ln0.toInt64)) + (ln1.toInt64)) + (ln2.toInt64)) + (ln3.toInt64))), .second, .val (.ref u), .val (.int (4 : Int32)), .val (.int (4 : Int32)), .val (.ref ca3)]) rfl k) ?_
  refine Done.st (B := T1.setTop (mkF m 14 #[.val (.ref a), .val (.long (((((0 : Int64) + (ln0.toInt64)) + (ln1.toInt64)) + (ln2.toInt64)) + (ln3.toInt64))), .second, .val (.ref u), .val (.int (4 : Int32)), .val (.int (4 : Int32)), .val (.ref ca3)] [])) (fun _ k => XS.goto X1.here hx rfl (pc0 := 37) (pc' := 14) rfl (hb hby d7_37) (by decide) (by decide) k) ?_
  refine Done.st (B := T1.setTop (mkF m 16 #[.val (.ref a), .val (.long (((((0 : Int64) + (ln0.toInt64)) + (ln1.toInt64)) + (ln2.toInt64)) + (ln3.toInt64))), .second, .val (.ref u), .val (.int (4 : Int32)), .val (.int (4 : Int32)), .val (.ref ca3)] [(.int (4 : Int32))])) (fun _ k => XS.iload X1.here hx rfl (hb hby d7_14) rfl k) ?_
  refine Done.st (B := T1.setTop (mkF m 18 #[.val (.ref a), .val (.long (((((0 : Int64) + (ln0.toInt64)) + (ln1.toInt64)) + (ln2.toInt64)) + (ln3.toInt64))), .second, .val (.ref u), .val (.int (4 : Int32)), .val (.int (4 : Int32)), .val (.ref ca3)] [(.int (4 : Int32)), (.int (4 : Int32))])) (fun _ k => XS.iload X1.here hx rfl (hb hby d7_16) rfl k) ?_
  refine Done.st (B := T1.setTop (mkF m 40 #[.val (.ref a), .val (.long (((((0 : Int64) + (ln0.toInt64)) + (ln1.toInt64)) + (ln2.toInt64)) + (ln3.toInt64))), .second, .val (.ref u), .val (.int (4 : Int32)), .val (.int (4 : Int32)), .val (.ref ca3)] [])) (fun _ k => XS.icmpYes X1.here hx rfl (pc0 := 18) (pc' := 40) rfl (hb hby d7_18) rfl (flt (by decide : ¬ ((4 : Int32) < (4 : Int32)))).2.1 (by decide) (by decide) k) ?_
  refine Done.st (B := T1.setTop (mkF m 41 #[.val (.ref a), .val (.long (((((0 : Int64) + (ln0.toInt64)) + (ln1.toInt64)) + (ln2.toInt64)) + (ln3.toInt64))), .second, .val (.ref u), .val (.int (4 : Int32)), .val (.int (4 : Int32)), .val (.ref ca3)] [(.long (((((0 : Int64) + (ln0.toInt64)) + (ln1.toInt64)) + (ln2.toInt64)) + (ln3.toInt64)))])) (fun _ k => XS.lloadN X1.here hx rfl (hb hby d7_40) rfl k) ?_
  obtain ⟨fs, hr, hrun, hended, hW, hsame⟩ := X1.leave (v := some (.long (((((0 : Int64) + (ln0.toInt64)) + (ln1.toInt64)) + (ln2.toInt64)) + (ln3.toInt64)))) (hlocks := hlk) (fun h => by rw [Bd.returns] at h; cases h)
  refine Done.fin (retJ X1 hx Bd.returns (hb hby d7_41) hr) hrun hended ⟨_, _, rfl, ?_, ⟨_, rfl⟩, hW, hsame.mono (by decide) (by decide)⟩
  show QrmIC_4 Z a u ku ca0 ca1 ca2 ca3 ln0 ln1 ln2 ln3 h0 n0 _ T1.heap _
  rw [e1]
  exact ⟨rfl, N0, rfl⟩
theorem ef_rm0 (m : MethodId) (x0 : Int32) (x1 : Int32) (x2 : Int32) (x3 : Int32) (x4 : Int32) (x5 : Int32) : entryFrame m #[(.int x0), (.int x1), (.int x2), (.int x3), (.int x4), (.int x5)] maxLocals = mkF m 0 #[.val (.int x0), .val (.int x1), .val (.int x2), .val (.int x3), .val (.int x4), .val (.int x5), .unset, .unset, .unset, .unset, .unset, .unset, .unset, .unset, .unset, .unset, .unset, .unset, .unset, .unset, .unset, .unset, .unset] [] := by first | (simp [entryFrame, mkF, argsToLocals, Value.category, maxLocals]; done) | rfl
def Qrm0 (Z : State) (x0 : Int32) (x1 : Int32) (x2 : Int32) (x3 : Int32) (x4 : Int32) (x5 : Int32) (w_D : Addr) (kw_D : ClassId) (h0 : Heap) (n0 : Nat) (v : Option Value) (h : Heap) (L : List Loc) : Prop := v = some (.int 1) ∧ Fr n0 L
def Prm0 (s : State) (Z : State) (x0 : Int32) (x1 : Int32) (x2 : Int32) (x3 : Int32) (x4 : Int32) (x5 : Int32) (w_D : Addr) (kw_D : ClassId) (h0 : Heap) (n0 : Nat) : State → Outcome → Prop := fun U' o => ∃ v L, o = .returned v ∧ Qrm0 Z x0 x1 x2 x3 x4 x5 w_D kw_D h0 n0 v U'.heap L ∧ FrameEnd s o U' L room_1.cells room_1.slots
set_option maxRecDepth 65536 in
set_option maxHeartbeats 40000000 in
theorem rm0 (l : Launch) (Z : State) (a0 : Array Value) (hw : ∀ d ∈ tables_1, d.before a0 Z = true) (ws : List Jvm.Cond) (x0 : Int32) (x1 : Int32) (x2 : Int32) (x3 : Int32) (x4 : Int32) (x5 : Int32) (w_D : Addr) (kw_D : ClassId) (h0 : Heap) (n0 : Nat) (Z0 : n0 ≤ h0.size) (S_D : Sta Z h0 "java/util/ArrayList" "DEFAULTCAPACITY_EMPTY_ELEMENTDATA" "[Ljava/lang/Object;" (.ref w_D)) (V_D : Arv Z h0 w_D kw_D (.object "java/lang/Object") (0 : Int32) [] .null) :
    MetFree l x (head1 (Jvm.Cond.code x code maxLocals ret :: ws) room_1) (fun aa U => aa = #[(.int x0), (.int x1), (.int x2), (.int x3), (.int x4), (.int x5)] ∧ Z.Warmed39 U.vm ∧ U.heap = h0) (fun _ _ _ _ _ => True) (fun _ U o U' => ∃ v L, o = .returned v ∧ Qrm0 Z x0 x1 x2 x3 x4 x5 w_D kw_D h0 n0 v U'.heap L ∧ FrameEnd U o U' L room_1.cells room_1.slots) := by
  refine MetFree.of_bodySF (plainFor_of_name pn_6) hisR ?_
  intro p e s m args below meth c s₁ Bd hml0 hP hK
  obtain ⟨rfl, hZ, hh⟩ := hP
  have hx := Bd.exec
  have hlk : meth.locks = false := by first | exact BodyLoose.notSynchronized Bd | exact Body.notSynchronized Bd
  have hby := Bd.bytes
  have hml : c.maxLocals = 23 := hml0
  have hown : s.vm.findClass "com/example/percurso/percurso/suite/SuiteInputCountPinLaw" = some m.cls := findClass_of_methodNamed Bd.named
  have hnm := (name_of_methodNamed Bd.named Bd.method).1
  have X0 : Stand p l e room_1 s m #[(.int x0), (.int x1), (.int x2), (.int x3), (.int x4), (.int x5)] below meth c s₁ [] 0 0 := Stand.of_body Bd
  have e0 : s₁.heap = h0 := by rw [← hh, Bd.state]; rfl
  have N0 := Fr.nil n0
  show Done p e below (Prm0 s Z x0 x1 x2 x3 x4 x5 w_D kw_D h0 n0) (s₁.setTop (entryFrame m #[(.int x0), (.int x1), (.int x2), (.int x3), (.int x4), (.int x5)] maxLocals))
  refine Done.st (B := s₁.setTop (mkF m 0 #[.val (.int x0), .val (.int x1), .val (.int x2), .val (.int x3), .val (.int x4), .val (.int x5), .unset, .unset, .unset, .unset, .unset, .unset, .unset, .unset, .unset, .unset, .unset, .unset, .unset, .unset, .unset, .unset, .unset] [])) (fun _ k => castTop (ef_rm0 m x0 x1 x2 x3 x4 x5) k) ?_
  refine Done.st (B := s₁.setTop (mkF m 1 #[.val (.int x0), .val (.int x1), .val (.int x2), .val (.int x3), .val (.int x4), .val (.int x5), .unset, .unset, .unset, .unset, .unset, .unset, .unset, .unset, .unset, .unset, .unset, .unset, .unset, .unset, .unset, .unset, .unset] [(.int x0)])) (fun _ k => XS.iloadN X0.here hx rfl (hb hby at_0) rfl k) ?_
  refine Done.st (B := s₁.setTop (mkF m 3 #[.val (.int x0), .val (.int x1), .val (.int x2), .val (.int x3), .val (.int x4), .val (.int x5), .unset, .unset, .unset, .unset, .unset, .unset, .unset, .unset, .unset, .unset, .unset, .unset, .unset, .unset, .unset, .unset, .unset] [(.int (7 : Int32)), (.int x0)])) (fun _ k => XS.bipush X0.here hx rfl (hb hby at_1) k) ?_
  refine Done.st (B := s₁.setTop (mkF m 4 #[.val (.int x0), .val (.int x1), .val (.int x2), .val (.int x3), .val (.int x4), .val (.int x5), .unset, .unset, .unset, .unset, .unset, .unset, .unset, .unset, .unset, .unset, .unset, .unset, .unset, .unset, .unset, .unset, .unset] [(.int (x0 &&& (7 : Int32)))])) (fun _ k => XS.iand X0.here hx rfl (hb hby at_3) rfl k) ?_
  refine Done.st (B := s₁.setTop (mkF m 6 #[.val (.int x0), .val (.int x1), .val (.int x2), .val (.int x3), .val (.int x4), .val (.int x5), .val (.int (x0 &&& (7 : Int32))), .unset, .unset, .unset, .unset, .unset, .unset, .unset, .unset, .unset, .unset, .unset, .unset, .unset, .unset, .unset, .unset] [])) (fun _ k => XS.istore X0.here hx rfl (hb hby at_4) rfl (l' := #[.val (.int x0), .val (.int x1), .val (.int x2), .val (.int x3), .val (.int x4), .val (.int x5), .val (.int (x0 &&& (7 : Int32))), .unset, .unset, .unset, .unset, .unset, .unset, .unset, .unset, .unset, .unset, .unset, .unset, .unset, .unset, .unset, .unset]) rfl k) ?_
  refine Done.st (B := s₁.setTop (mkF m 7 #[.val (.int x0), .val (.int x1), .val (.int x2), .val (.int x3), .val (.int x4), .val (.int x5), .val (.int (x0 &&& (7 : Int32))), .unset, .unset, .unset, .unset, .unset, .unset, .unset, .unset, .unset, .unset, .unset, .unset, .unset, .unset, .unset, .unset] [(.int x1)])) (fun _ k => XS.iloadN X0.here hx rfl (hb hby at_6) rfl k) ?_
  refine Done.st (B := s₁.setTop (mkF m 9 #[.val (.int x0), .val (.int x1), .val (.int x2), .val (.int x3), .val (.int x4), .val (.int x5), .val (.int (x0 &&& (7 : Int32))), .unset, .unset, .unset, .unset, .unset, .unset, .unset, .unset, .unset, .unset, .unset, .unset, .unset, .unset, .unset, .unset] [(.int (7 : Int32)), (.int x1)])) (fun _ k => XS.bipush X0.here hx rfl (hb hby at_7) k) ?_
  refine Done.st (B := s₁.setTop (mkF m 10 #[.val (.int x0), .val (.int x1), .val (.int x2), .val (.int x3), .val (.int x4), .val (.int x5), .val (.int (x0 &&& (7 : Int32))), .unset, .unset, .unset, .unset, .unset, .unset, .unset, .unset, .unset, .unset, .unset, .unset, .unset, .unset, .unset, .unset] [(.int (x1 &&& (7 : Int32)))])) (fun _ k => XS.iand X0.here hx rfl (hb hby at_9) rfl k) ?_
  refine Done.st (B := s₁.setTop (mkF m 12 #[.val (.int x0), .val (.int x1), .val (.int x2), .val (.int x3), .val (.int x4), .val (.int x5), .val (.int (x0 &&& (7 : Int32))), .val (.int (x1 &&& (7 : Int32))), .unset, .unset, .unset, .unset, .unset, .unset, .unset, .unset, .unset, .unset, .unset, .unset, .unset, .unset, .unset] [])) (fun _ k => XS.istore X0.here hx rfl (hb hby at_10) rfl (l' := #[.val (.int x0), .val (.int x1), .val (.int x2), .val (.int x3), .val (.int x4), .val (.int x5), .val (.int (x0 &&& (7 : Int32))), .val (.int (x1 &&& (7 : Int32))), .unset, .unset, .unset, .unset, .unset, .unset, .unset, .unset, .unset, .unset, .unset, .unset, .unset, .unset, .unset]) rfl k) ?_
  refine Done.st (B := s₁.setTop (mkF m 13 #[.val (.int x0), .val (.int x1), .val (.int x2), .val (.int x3), .val (.int x4), .val (.int x5), .val (.int (x0 &&& (7 : Int32))), .val (.int (x1 &&& (7 : Int32))), .unset, .unset, .unset, .unset, .unset, .unset, .unset, .unset, .unset, .unset, .unset, .unset, .unset, .unset, .unset] [(.int x2)])) (fun _ k => XS.iloadN X0.here hx rfl (hb hby at_12) rfl k) ?_
  refine Done.st (B := s₁.setTop (mkF m 15 #[.val (.int x0), .val (.int x1), .val (.int x2), .val (.int x3), .val (.int x4), .val (.int x5), .val (.int (x0 &&& (7 : Int32))), .val (.int (x1 &&& (7 : Int32))), .unset, .unset, .unset, .unset, .unset, .unset, .unset, .unset, .unset, .unset, .unset, .unset, .unset, .unset, .unset] [(.int (7 : Int32)), (.int x2)])) (fun _ k => XS.bipush X0.here hx rfl (hb hby at_13) k) ?_
  refine Done.st (B := s₁.setTop (mkF m 16 #[.val (.int x0), .val (.int x1), .val (.int x2), .val (.int x3), .val (.int x4), .val (.int x5), .val (.int (x0 &&& (7 : Int32))), .val (.int (x1 &&& (7 : Int32))), .unset, .unset, .unset, .unset, .unset, .unset, .unset, .unset, .unset, .unset, .unset, .unset, .unset, .unset, .unset] [(.int (x2 &&& (7 : Int32)))])) (fun _ k => XS.iand X0.here hx rfl (hb hby at_15) rfl k) ?_
  refine Done.st (B := s₁.setTop (mkF m 18 #[.val (.int x0), .val (.int x1), .val (.int x2), .val (.int x3), .val (.int x4), .val (.int x5), .val (.int (x0 &&& (7 : Int32))), .val (.int (x1 &&& (7 : Int32))), .val (.int (x2 &&& (7 : Int32))), .unset, .unset, .unset, .unset, .unset, .unset, .unset, .unset, .unset, .unset, .unset, .unset, .unset, .unset] [])) (fun _ k => XS.istore X0.here hx rfl (hb hby at_16) rfl (l' := #[.val (.int x0), .val (.int x1), .val (.int x2), .val (.int x3), .val (.int x4), .val (.int x5), .val (.int (x0 &&& (7 : Int32))), .val (.int (x1 &&& (7 : Int32))), .val (.int (x2 &&& (7 : Int32))), .unset, .unset, .unset, .unset, .unset, .unset, .unset, .unset, .unset, .unset, .unset, .unset, .unset, .unset]) rfl k) ?_
  refine Done.st (B := s₁.setTop (mkF m 19 #[.val (.int x0), .val (.int x1), .val (.int x2), .val (.int x3), .val (.int x4), .val (.int x5), .val (.int (x0 &&& (7 : Int32))), .val (.int (x1 &&& (7 : Int32))), .val (.int (x2 &&& (7 : Int32))), .unset, .unset, .unset, .unset, .unset, .unset, .unset, .unset, .unset, .unset, .unset, .unset, .unset, .unset] [(.int x3)])) (fun _ k => XS.iloadN X0.here hx rfl (hb hby at_18) rfl k) ?_
  refine Done.st (B := s₁.setTop (mkF m 21 #[.val (.int x0), .val (.int x1), .val (.int x2), .val (.int x3), .val (.int x4), .val (.int x5), .val (.int (x0 &&& (7 : Int32))), .val (.int (x1 &&& (7 : Int32))), .val (.int (x2 &&& (7 : Int32))), .unset, .unset, .unset, .unset, .unset, .unset, .unset, .unset, .unset, .unset, .unset, .unset, .unset, .unset] [(.int (7 : Int32)), (.int x3)])) (fun _ k => XS.bipush X0.here hx rfl (hb hby at_19) k) ?_
  refine Done.st (B := s₁.setTop (mkF m 22 #[.val (.int x0), .val (.int x1), .val (.int x2), .val (.int x3), .val (.int x4), .val (.int x5), .val (.int (x0 &&& (7 : Int32))), .val (.int (x1 &&& (7 : Int32))), .val (.int (x2 &&& (7 : Int32))), .unset, .unset, .unset, .unset, .unset, .unset, .unset, .unset, .unset, .unset, .unset, .unset, .unset, .unset] [(.int (x3 &&& (7 : Int32)))])) (fun _ k => XS.iand X0.here hx rfl (hb hby at_21) rfl k) ?_
  refine Done.st (B := s₁.setTop (mkF m 24 #[.val (.int x0), .val (.int x1), .val (.int x2), .val (.int x3), .val (.int x4), .val (.int x5), .val (.int (x0 &&& (7 : Int32))), .val (.int (x1 &&& (7 : Int32))), .val (.int (x2 &&& (7 : Int32))), .val (.int (x3 &&& (7 : Int32))), .unset, .unset, .unset, .unset, .unset, .unset, .unset, .unset, .unset, .unset, .unset, .unset, .unset] [])) (fun _ k => XS.istore X0.here hx rfl (hb hby at_22) rfl (l' := #[.val (.int x0), .val (.int x1), .val (.int x2), .val (.int x3), .val (.int x4), .val (.int x5), .val (.int (x0 &&& (7 : Int32))), .val (.int (x1 &&& (7 : Int32))), .val (.int (x2 &&& (7 : Int32))), .val (.int (x3 &&& (7 : Int32))), .unset, .unset, .unset, .unset, .unset, .unset, .unset, .unset, .unset, .unset, .unset, .unset, .unset]) rfl k) ?_
  refine Done.st (B := s₁.setTop (mkF m 26 #[.val (.int x0), .val (.int x1), .val (.int x2), .val (.int x3), .val (.int x4), .val (.int x5), .val (.int (x0 &&& (7 : Int32))), .val (.int (x1 &&& (7 : Int32))), .val (.int (x2 &&& (7 : Int32))), .val (.int (x3 &&& (7 : Int32))), .unset, .unset, .unset, .unset, .unset, .unset, .unset, .unset, .unset, .unset, .unset, .unset, .unset] [(.int x4)])) (fun _ k => XS.iload X0.here hx rfl (hb hby at_24) rfl k) ?_
  refine Done.st (B := s₁.setTop (mkF m 28 #[.val (.int x0), .val (.int x1), .val (.int x2), .val (.int x3), .val (.int x4), .val (.int x5), .val (.int (x0 &&& (7 : Int32))), .val (.int (x1 &&& (7 : Int32))), .val (.int (x2 &&& (7 : Int32))), .val (.int (x3 &&& (7 : Int32))), .unset, .unset, .unset, .unset, .unset, .unset, .unset, .unset, .unset, .unset, .unset, .unset, .unset] [(.int (7 : Int32)), (.int x4)])) (fun _ k => XS.bipush X0.here hx rfl (hb hby at_26) k) ?_
  refine Done.st (B := s₁.setTop (mkF m 29 #[.val (.int x0), .val (.int x1), .val (.int x2), .val (.int x3), .val (.int x4), .val (.int x5), .val (.int (x0 &&& (7 : Int32))), .val (.int (x1 &&& (7 : Int32))), .val (.int (x2 &&& (7 : Int32))), .val (.int (x3 &&& (7 : Int32))), .unset, .unset, .unset, .unset, .unset, .unset, .unset, .unset, .unset, .unset, .unset, .unset, .unset] [(.int (x4 &&& (7 : Int32)))])) (fun _ k => XS.iand X0.here hx rfl (hb hby at_28) rfl k) ?_
  have j31 : ∀ (cnt : Int32) (na : Int32) (nb : Int32) (nc : Int32) (nd : Int32) (hcnt : 0 ≤ cnt.toInt ∧ cnt.toInt ≤ 7) (hna : 0 ≤ na.toInt ∧ na.toInt ≤ 7) (hnb : 0 ≤ nb.toInt ∧ nb.toInt ≤ 7) (hnc : 0 ≤ nc.toInt ∧ nc.toInt ≤ 7) (hnd : 0 ≤ nd.toInt ∧ nd.toInt ≤ 7), Done p e below (Prm0 s Z x0 x1 x2 x3 x4 x5 w_D kw_D h0 n0) (s₁.setTop (mkF m 31 #[.val (.int x0), .val (.int x1), .val (.int x2), .val (.int x3), .val (.int x4), .val (.int x5), .val (.int cnt), .val (.int na), .val (.int nb), .val (.int nc), .val (.int nd), .unset, .unset, .unset, .unset, .unset, .unset, .unset, .unset, .unset, .unset, .unset, .unset] [])) := by
    intro cnt na nb nc nd hcnt hna hnb hnc hnd
    refine Done.st (B := s₁.setTop (mkF m 33 #[.val (.int x0), .val (.int x1), .val (.int x2), .val (.int x3), .val (.int x4), .val (.int x5), .val (.int cnt), .val (.int na), .val (.int nb), .val (.int nc), .val (.int nd), .unset, .unset, .unset, .unset, .unset, .unset, .unset, .unset, .unset, .unset, .unset, .unset] [(.int na)])) (fun _ k => XS.iload X0.here hx rfl (hb hby at_31) rfl k) ?_
    obtain ⟨T1, h1, k1, X1, e1, E1, A1, Ex1, st1⟩ := newPE X0 hx hZ (hw _ (List.mem_of_getElem? (i := 0) rfl)) e0 (g := (mkF m 33 #[.val (.int x0), .val (.int x1), .val (.int x2), .val (.int x3), .val (.int x4), .val (.int x5), .val (.int cnt), .val (.int na), .val (.int nb), .val (.int nc), .val (.int nd), .unset, .unset, .unset, .unset, .unset, .unset, .unset, .unset, .unset, .unset, .unset, .unset] [(.int na)])) rfl (hb hby at_33) rfl (own_ng hna) (cap := 7) (own_cap hna) (by decide) (by decide) (by decide) (ad := "[I") rfl
    obtain ⟨b1, g1⟩ : ∃ z, z = h0.size := ⟨_, rfl⟩
    rw [← g1] at A1 Ex1 st1
    have ne_w_D_b1 : w_D ≠ b1 := Nat.ne_of_lt (Nat.lt_of_lt_of_le V_D.lt (Nat.le_of_eq g1.symm))
    have ge_b1 : n0 ≤ b1 := Nat.le_trans Z0 (Nat.le_of_eq g1.symm)
    have Z1 : n0 ≤ h1.size := Nat.le_trans Z0 E1.1
    have Y1 : IA Z h1 b1 na := IA.new A1 (own_ng hna) Ex1
    refine Done.st (B := T1.setTop (mkF m 35 #[.val (.int x0), .val (.int x1), .val (.int x2), .val (.int x3), .val (.int x4), .val (.int x5), .val (.int cnt), .val (.int na), .val (.int nb), .val (.int nc), .val (.int nd), .unset, .unset, .unset, .unset, .unset, .unset, .unset, .unset, .unset, .unset, .unset, .unset] [(.ref b1)])) (fun _ k => st1 _ k) ?_
    refine Done.st (B := T1.setTop (mkF m 37 #[.val (.int x0), .val (.int x1), .val (.int x2), .val (.int x3), .val (.int x4), .val (.int x5), .val (.int cnt), .val (.int na), .val (.int nb), .val (.int nc), .val (.int nd), .val (.ref b1), .unset, .unset, .unset, .unset, .unset, .unset, .unset, .unset, .unset, .unset, .unset] [])) (fun _ k => XS.astore X1.here hx rfl (hb hby at_35) rfl rfl (l' := #[.val (.int x0), .val (.int x1), .val (.int x2), .val (.int x3), .val (.int x4), .val (.int x5), .val (.int cnt), .val (.int na), .val (.int nb), .val (.int nc), .val (.int nd), .val (.ref b1), .unset, .unset, .unset, .unset, .unset, .unset, .unset, .unset, .unset, .unset, .unset]) rfl k) ?_
    refine Done.st (B := T1.setTop (mkF m 39 #[.val (.int x0), .val (.int x1), .val (.int x2), .val (.int x3), .val (.int x4), .val (.int x5), .val (.int cnt), .val (.int na), .val (.int nb), .val (.int nc), .val (.int nd), .val (.ref b1), .unset, .unset, .unset, .unset, .unset, .unset, .unset, .unset, .unset, .unset, .unset] [(.int nb)])) (fun _ k => XS.iload X1.here hx rfl (hb hby at_37) rfl k) ?_
    obtain ⟨T2, h2, k2, X2, e2, E2, A2, Ex2, st2⟩ := newPE X1 hx hZ (hw _ (List.mem_of_getElem? (i := 0) rfl)) e1 (g := (mkF m 39 #[.val (.int x0), .val (.int x1), .val (.int x2), .val (.int x3), .val (.int x4), .val (.int x5), .val (.int cnt), .val (.int na), .val (.int nb), .val (.int nc), .val (.int nd), .val (.ref b1), .unset, .unset, .unset, .unset, .unset, .unset, .unset, .unset, .unset, .unset, .unset] [(.int nb)])) rfl (hb hby at_39) rfl (own_ng hnb) (cap := 7) (own_cap hnb) (by decide) (by decide) (by decide) (ad := "[I") rfl
    have c3 := (V_D.ext E1)
    obtain ⟨b2, g2⟩ : ∃ z, z = h1.size := ⟨_, rfl⟩
    rw [← g2] at A2 Ex2 st2
    have ne_w_D_b2 : w_D ≠ b2 := Nat.ne_of_lt (Nat.lt_of_lt_of_le c3.lt (Nat.le_of_eq g2.symm))
    have ne_b1_b2 : b1 ≠ b2 := Nat.ne_of_lt (Nat.lt_of_lt_of_le Y1.lt (Nat.le_of_eq g2.symm))
    have ge_b2 : n0 ≤ b2 := Nat.le_trans Z1 (Nat.le_of_eq g2.symm)
    have Z2 : n0 ≤ h2.size := Nat.le_trans Z1 E2.1
    have Y2 : IA Z h2 b2 nb := IA.new A2 (own_ng hnb) Ex2
    refine Done.st (B := T2.setTop (mkF m 41 #[.val (.int x0), .val (.int x1), .val (.int x2), .val (.int x3), .val (.int x4), .val (.int x5), .val (.int cnt), .val (.int na), .val (.int nb), .val (.int nc), .val (.int nd), .val (.ref b1), .unset, .unset, .unset, .unset, .unset, .unset, .unset, .unset, .unset, .unset, .unset] [(.ref b2)])) (fun _ k => st2 _ k) ?_
    refine Done.st (B := T2.setTop (mkF m 43 #[.val (.int x0), .val (.int x1), .val (.int x2), .val (.int x3), .val (.int x4), .val (.int x5), .val (.int cnt), .val (.int na), .val (.int nb), .val (.int nc), .val (.int nd), .val (.ref b1), .val (.ref b2), .unset, .unset, .unset, .unset, .unset, .unset, .unset, .unset, .unset, .unset] [])) (fun _ k => XS.astore X2.here hx rfl (hb hby at_41) rfl rfl (l' := #[.val (.int x0), .val (.int x1), .val (.int x2), .val (.int x3), .val (.int x4), .val (.int x5), .val (.int cnt), .val (.int na), .val (.int nb), .val (.int nc), .val (.int nd), .val (.ref b1), .val (.ref b2), .unset, .unset, .unset, .unset, .unset, .unset, .unset, .unset, .unset, .unset]) rfl k) ?_
    refine Done.st (B := T2.setTop (mkF m 45 #[.val (.int x0), .val (.int x1), .val (.int x2), .val (.int x3), .val (.int x4), .val (.int x5), .val (.int cnt), .val (.int na), .val (.int nb), .val (.int nc), .val (.int nd), .val (.ref b1), .val (.ref b2), .unset, .unset, .unset, .unset, .unset, .unset, .unset, .unset, .unset, .unset] [(.int nc)])) (fun _ k => XS.iload X2.here hx rfl (hb hby at_43) rfl k) ?_
    obtain ⟨T4, h4, k4, X4, e4, E4, A4, Ex4, st4⟩ := newPE X2 hx hZ (hw _ (List.mem_of_getElem? (i := 0) rfl)) e2 (g := (mkF m 45 #[.val (.int x0), .val (.int x1), .val (.int x2), .val (.int x3), .val (.int x4), .val (.int x5), .val (.int cnt), .val (.int na), .val (.int nb), .val (.int nc), .val (.int nd), .val (.ref b1), .val (.ref b2), .unset, .unset, .unset, .unset, .unset, .unset, .unset, .unset, .unset, .unset] [(.int nc)])) rfl (hb hby at_45) rfl (own_ng hnc) (cap := 7) (own_cap hnc) (by decide) (by decide) (by decide) (ad := "[I") rfl
    have c5 := (c3.ext E2)
    have c6 := (Y1.ext E2)
    obtain ⟨b4, g4⟩ : ∃ z, z = h2.size := ⟨_, rfl⟩
    rw [← g4] at A4 Ex4 st4
    have ne_w_D_b4 : w_D ≠ b4 := Nat.ne_of_lt (Nat.lt_of_lt_of_le c5.lt (Nat.le_of_eq g4.symm))
    have ne_b1_b4 : b1 ≠ b4 := Nat.ne_of_lt (Nat.lt_of_lt_of_le c6.lt (Nat.le_of_eq g4.symm))
    have ne_b2_b4 : b2 ≠ b4 := Nat.ne_of_lt (Nat.lt_of_lt_of_le Y2.lt (Nat.le_of_eq g4.symm))
    have ge_b4 : n0 ≤ b4 := Nat.le_trans Z2 (Nat.le_of_eq g4.symm)
    have Z4 : n0 ≤ h4.size := Nat.le_trans Z2 E4.1
    have Y4 : IA Z h4 b4 nc := IA.new A4 (own_ng hnc) Ex4
    refine Done.st (B := T4.setTop (mkF m 47 #[.val (.int x0), .val (.int x1), .val (.int x2), .val (.int x3), .val (.int x4), .val (.int x5), .val (.int cnt), .val (.int na), .val (.int nb), .val (.int nc), .val (.int nd), .val (.ref b1), .val (.ref b2), .unset, .unset, .unset, .unset, .unset, .unset, .unset, .unset, .unset, .unset] [(.ref b4)])) (fun _ k => st4 _ k) ?_
    refine Done.st (B := T4.setTop (mkF m 49 #[.val (.int x0), .val (.int x1), .val (.int x2), .val (.int x3), .val (.int x4), .val (.int x5), .val (.int cnt), .val (.int na), .val (.int nb), .val (.int nc), .val (.int nd), .val (.ref b1), .val (.ref b2), .val (.ref b4), .unset, .unset, .unset, .unset, .unset, .unset, .unset, .unset, .unset] [])) (fun _ k => XS.astore X4.here hx rfl (hb hby at_47) rfl rfl (l' := #[.val (.int x0), .val (.int x1), .val (.int x2), .val (.int x3), .val (.int x4), .val (.int x5), .val (.int cnt), .val (.int na), .val (.int nb), .val (.int nc), .val (.int nd), .val (.ref b1), .val (.ref b2), .val (.ref b4), .unset, .unset, .unset, .unset, .unset, .unset, .unset, .unset, .unset]) rfl k) ?_
    refine Done.st (B := T4.setTop (mkF m 51 #[.val (.int x0), .val (.int x1), .val (.int x2), .val (.int x3), .val (.int x4), .val (.int x5), .val (.int cnt), .val (.int na), .val (.int nb), .val (.int nc), .val (.int nd), .val (.ref b1), .val (.ref b2), .val (.ref b4), .unset, .unset, .unset, .unset, .unset, .unset, .unset, .unset, .unset] [(.int nd)])) (fun _ k => XS.iload X4.here hx rfl (hb hby at_49) rfl k) ?_
    obtain ⟨T7, h7, k7, X7, e7, E7, A7, Ex7, st7⟩ := newPE X4 hx hZ (hw _ (List.mem_of_getElem? (i := 0) rfl)) e4 (g := (mkF m 51 #[.val (.int x0), .val (.int x1), .val (.int x2), .val (.int x3), .val (.int x4), .val (.int x5), .val (.int cnt), .val (.int na), .val (.int nb), .val (.int nc), .val (.int nd), .val (.ref b1), .val (.ref b2), .val (.ref b4), .unset, .unset, .unset, .unset, .unset, .unset, .unset, .unset, .unset] [(.int nd)])) rfl (hb hby at_51) rfl (own_ng hnd) (cap := 7) (own_cap hnd) (by decide) (by decide) (by decide) (ad := "[I") rfl
    have c8 := (c5.ext E4)
    have c9 := (c6.ext E4)
    have c10 := (Y2.ext E4)
    obtain ⟨b7, g7⟩ : ∃ z, z = h4.size := ⟨_, rfl⟩
    rw [← g7] at A7 Ex7 st7
    have ne_w_D_b7 : w_D ≠ b7 := Nat.ne_of_lt (Nat.lt_of_lt_of_le c8.lt (Nat.le_of_eq g7.symm))
    have ne_b1_b7 : b1 ≠ b7 := Nat.ne_of_lt (Nat.lt_of_lt_of_le c9.lt (Nat.le_of_eq g7.symm))
    have ne_b2_b7 : b2 ≠ b7 := Nat.ne_of_lt (Nat.lt_of_lt_of_le c10.lt (Nat.le_of_eq g7.symm))
    have ne_b4_b7 : b4 ≠ b7 := Nat.ne_of_lt (Nat.lt_of_lt_of_le Y4.lt (Nat.le_of_eq g7.symm))
    have ge_b7 : n0 ≤ b7 := Nat.le_trans Z4 (Nat.le_of_eq g7.symm)
    have Z7 : n0 ≤ h7.size := Nat.le_trans Z4 E7.1
    have Y7 : IA Z h7 b7 nd := IA.new A7 (own_ng hnd) Ex7
    refine Done.st (B := T7.setTop (mkF m 53 #[.val (.int x0), .val (.int x1), .val (.int x2), .val (.int x3), .val (.int x4), .val (.int x5), .val (.int cnt), .val (.int na), .val (.int nb), .val (.int nc), .val (.int nd), .val (.ref b1), .val (.ref b2), .val (.ref b4), .unset, .unset, .unset, .unset, .unset, .unset, .unset, .unset, .unset] [(.ref b7)])) (fun _ k => st7 _ k) ?_
    refine Done.st (B := T7.setTop (mkF m 55 #[.val (.int x0), .val (.int x1), .val (.int x2), .val (.int x3), .val (.int x4), .val (.int x5), .val (.int cnt), .val (.int na), .val (.int nb), .val (.int nc), .val (.int nd), .val (.ref b1), .val (.ref b2), .val (.ref b4), .val (.ref b7), .unset, .unset, .unset, .unset, .unset, .unset, .unset, .unset] [])) (fun _ k => XS.astore X7.here hx rfl (hb hby at_53) rfl rfl (l' := #[.val (.int x0), .val (.int x1), .val (.int x2), .val (.int x3), .val (.int x4), .val (.int x5), .val (.int cnt), .val (.int na), .val (.int nb), .val (.int nc), .val (.int nd), .val (.ref b1), .val (.ref b2), .val (.ref b4), .val (.ref b7), .unset, .unset, .unset, .unset, .unset, .unset, .unset, .unset]) rfl k) ?_
    have j66 : ∀ (Tj66 : State) (hj66 : Heap) (Lj66 : List Loc) (Xj66 : Stand p l e room_1 s m #[(.int x0), (.int x1), (.int x2), (.int x3), (.int x4), (.int x5)] below meth c Tj66 Lj66 4 28) (ej66 : Tj66.heap = hj66) (Nj66 : Fr n0 Lj66) (Zj66 : n0 ≤ hj66.size) (fj66_0 : Sta Z hj66 "java/util/ArrayList" "DEFAULTCAPACITY_EMPTY_ELEMENTDATA" "[Ljava/lang/Object;" (.ref w_D)) (fj66_1 : Arv Z hj66 w_D kw_D (.object "java/lang/Object") (0 : Int32) [] .null) (fj66_2 : IA Z hj66 b1 na) (fj66_3 : Exa Z hj66 b1 "[I") (fj66_4 : IA Z hj66 b2 nb) (fj66_5 : Exa Z hj66 b2 "[I") (fj66_6 : IA Z hj66 b4 nc) (fj66_7 : Exa Z hj66 b4 "[I") (fj66_8 : IA Z hj66 b7 nd) (fj66_9 : Exa Z hj66 b7 "[I"), Done p e below (Prm0 s Z x0 x1 x2 x3 x4 x5 w_D kw_D h0 n0) (Tj66.setTop (mkF m 66 #[.val (.int x0), .val (.int x1), .val (.int x2), .val (.int x3), .val (.int x4), .val (.int x5), .val (.int cnt), .val (.int na), .val (.int nb), .val (.int nc), .val (.int nd), .val (.ref b1), .val (.ref b2), .val (.ref b4), .val (.ref b7), .unset, .unset, .unset, .unset, .unset, .unset, .unset, .unset] [])) := by
      intro  Tj66 hj66 Lj66 Xj66 ej66 Nj66 Zj66 fj66_0 fj66_1 fj66_2 fj66_3 fj66_4 fj66_5 fj66_6 fj66_7 fj66_8 fj66_9  
      have j80 : ∀ (Tj80 : State) (hj80 : Heap) (Lj80 : List Loc) (Xj80 : Stand p l e room_1 s m #[(.int x0), (.int x1), (.int x2), (.int x3), (.int x4), (.int x5)] below meth c Tj80 Lj80 4 28) (ej80 : Tj80.heap = hj80) (Nj80 : Fr n0 Lj80) (Zj80 : n0 ≤ hj80.size) (fj80_0 : Sta Z hj80 "java/util/ArrayList" "DEFAULTCAPACITY_EMPTY_ELEMENTDATA" "[Ljava/lang/Object;" (.ref w_D)) (fj80_1 : Arv Z hj80 w_D kw_D (.object "java/lang/Object") (0 : Int32) [] .null) (fj80_2 : IA Z hj80 b1 na) (fj80_3 : Exa Z hj80 b1 "[I") (fj80_4 : IA Z hj80 b2 nb) (fj80_5 : Exa Z hj80 b2 "[I") (fj80_6 : IA Z hj80 b4 nc) (fj80_7 : Exa Z hj80 b4 "[I") (fj80_8 : IA Z hj80 b7 nd) (fj80_9 : Exa Z hj80 b7 "[I"), Done p e below (Prm0 s Z x0 x1 x2 x3 x4 x5 w_D kw_D h0 n0) (Tj80.setTop (mkF m 80 #[.val (.int x0), .val (.int x1), .val (.int x2), .val (.int x3), .val (.int x4), .val (.int x5), .val (.int cnt), .val (.int na), .val (.int nb), .val (.int nc), .val (.int nd), .val (.ref b1), .val (.ref b2), .val (.ref b4), .val (.ref b7), .unset, .unset, .unset, .unset, .unset, .unset, .unset, .unset] [])) := by
        intro  Tj80 hj80 Lj80 Xj80 ej80 Nj80 Zj80 fj80_0 fj80_1 fj80_2 fj80_3 fj80_4 fj80_5 fj80_6 fj80_7 fj80_8 fj80_9  
        have j92 : ∀ (Tj92 : State) (hj92 : Heap) (Lj92 : List Loc) (Xj92 : Stand p l e room_1 s m #[(.int x0), (.int x1), (.int x2), (.int x3), (.int x4), (.int x5)] below meth c Tj92 Lj92 4 28) (ej92 : Tj92.heap = hj92) (Nj92 : Fr n0 Lj92) (Zj92 : n0 ≤ hj92.size) (fj92_0 : Sta Z hj92 "java/util/ArrayList" "DEFAULTCAPACITY_EMPTY_ELEMENTDATA" "[Ljava/lang/Object;" (.ref w_D)) (fj92_1 : Arv Z hj92 w_D kw_D (.object "java/lang/Object") (0 : Int32) [] .null) (fj92_2 : IA Z hj92 b1 na) (fj92_3 : Exa Z hj92 b1 "[I") (fj92_4 : IA Z hj92 b2 nb) (fj92_5 : Exa Z hj92 b2 "[I") (fj92_6 : IA Z hj92 b4 nc) (fj92_7 : Exa Z hj92 b4 "[I") (fj92_8 : IA Z hj92 b7 nd) (fj92_9 : Exa Z hj92 b7 "[I"), Done p e below (Prm0 s Z x0 x1 x2 x3 x4 x5 w_D kw_D h0 n0) (Tj92.setTop (mkF m 92 #[.val (.int x0), .val (.int x1), .val (.int x2), .val (.int x3), .val (.int x4), .val (.int x5), .val (.int cnt), .val (.int na), .val (.int nb), .val (.int nc), .val (.int nd), .val (.ref b1), .val (.ref b2), .val (.ref b4), .val (.ref b7), .unset, .unset, .unset, .unset, .unset, .unset, .unset, .unset] [])) := by
          intro  Tj92 hj92 Lj92 Xj92 ej92 Nj92 Zj92 fj92_0 fj92_1 fj92_2 fj92_3 fj92_4 fj92_5 fj92_6 fj92_7 fj92_8 fj92_9  
          have j108 : ∀ (Tj108 : State) (hj108 : Heap) (Lj108 : List Loc) (Xj108 : Stand p l e room_1 s m #[(.int x0), (.int x1), (.int x2), (.int x3), (.int x4), (.int x5)] below meth c Tj108 Lj108 4 28) (ej108 : Tj108.heap = hj108) (Nj108 : Fr n0 Lj108) (Zj108 : n0 ≤ hj108.size) (fj108_0 : Sta Z hj108 "java/util/ArrayList" "DEFAULTCAPACITY_EMPTY_ELEMENTDATA" "[Ljava/lang/Object;" (.ref w_D)) (fj108_1 : Arv Z hj108 w_D kw_D (.object "java/lang/Object") (0 : Int32) [] .null) (fj108_2 : IA Z hj108 b1 na) (fj108_3 : Exa Z hj108 b1 "[I") (fj108_4 : IA Z hj108 b2 nb) (fj108_5 : Exa Z hj108 b2 "[I") (fj108_6 : IA Z hj108 b4 nc) (fj108_7 : Exa Z hj108 b4 "[I") (fj108_8 : IA Z hj108 b7 nd) (fj108_9 : Exa Z hj108 b7 "[I"), Done p e below (Prm0 s Z x0 x1 x2 x3 x4 x5 w_D kw_D h0 n0) (Tj108.setTop (mkF m 108 #[.val (.int x0), .val (.int x1), .val (.int x2), .val (.int x3), .val (.int x4), .val (.int x5), .val (.int cnt), .val (.int na), .val (.int nb), .val (.int nc), .val (.int nd), .val (.ref b1), .val (.ref b2), .val (.ref b4), .val (.ref b7), .unset, .unset, .unset, .unset, .unset, .unset, .unset, .unset] [])) := by
            intro  Tj108 hj108 Lj108 Xj108 ej108 Nj108 Zj108 fj108_0 fj108_1 fj108_2 fj108_3 fj108_4 fj108_5 fj108_6 fj108_7 fj108_8 fj108_9  
            obtain ⟨T11, h11, X11, e11, E11, A11, D11, -, st11⟩ := newO Xj108 hx hZ hown (hw _ (List.mem_of_getElem? (i := 1) rfl)) (hw _ (List.mem_of_getElem? (i := 2) rfl)) (hw _ (List.mem_of_getElem? (i := 3) rfl)) ej108 (g := (mkF m 108 #[.val (.int x0), .val (.int x1), .val (.int x2), .val (.int x3), .val (.int x4), .val (.int x5), .val (.int cnt), .val (.int na), .val (.int nb), .val (.int nc), .val (.int nd), .val (.ref b1), .val (.ref b2), .val (.ref b4), .val (.ref b7), .unset, .unset, .unset, .unset, .unset, .unset, .unset, .unset] [])) rfl (hb hby at_108) (by decide) (by decide)
            obtain ⟨b11, g11⟩ : ∃ z, z = hj108.size := ⟨_, rfl⟩
            rw [← g11] at A11 D11 st11
            have ne_w_D_b11 : w_D ≠ b11 := Nat.ne_of_lt (Nat.lt_of_lt_of_le fj108_1.lt (Nat.le_of_eq g11.symm))
            have ne_b1_b11 : b1 ≠ b11 := Nat.ne_of_lt (Nat.lt_of_lt_of_le fj108_2.lt (Nat.le_of_eq g11.symm))
            have ne_b2_b11 : b2 ≠ b11 := Nat.ne_of_lt (Nat.lt_of_lt_of_le fj108_4.lt (Nat.le_of_eq g11.symm))
            have ne_b4_b11 : b4 ≠ b11 := Nat.ne_of_lt (Nat.lt_of_lt_of_le fj108_6.lt (Nat.le_of_eq g11.symm))
            have ne_b7_b11 : b7 ≠ b11 := Nat.ne_of_lt (Nat.lt_of_lt_of_le fj108_8.lt (Nat.le_of_eq g11.symm))
            have ge_b11 : n0 ≤ b11 := Nat.le_trans Zj108 (Nat.le_of_eq g11.symm)
            have Z11 : n0 ≤ h11.size := Nat.le_trans Zj108 E11.1
            have F11_modCount : Fld Z h11 b11 "java/util/AbstractList" "modCount" "I" (.int (0 : Int32)) := D11 (Or.inl (hw _ (List.mem_of_getElem? (i := 23) rfl))) (ty := .int) (by decide)
            have F11_elementData : Fld Z h11 b11 "java/util/ArrayList" "elementData" "[Ljava/lang/Object;" .null := D11 (Or.inl (hw _ (List.mem_of_getElem? (i := 26) rfl))) (ty := (.array (.object "java/lang/Object"))) (by decide)
            have F11_size : Fld Z h11 b11 "java/util/ArrayList" "size" "I" (.int (0 : Int32)) := D11 (Or.inl (hw _ (List.mem_of_getElem? (i := 44) rfl))) (ty := .int) (by decide)
            refine Done.st (B := T11.setTop (mkF m 111 #[.val (.int x0), .val (.int x1), .val (.int x2), .val (.int x3), .val (.int x4), .val (.int x5), .val (.int cnt), .val (.int na), .val (.int nb), .val (.int nc), .val (.int nd), .val (.ref b1), .val (.ref b2), .val (.ref b4), .val (.ref b7), .unset, .unset, .unset, .unset, .unset, .unset, .unset, .unset] [(.ref b11)])) (fun _ k => st11 _ k) ?_
            refine Done.st (B := T11.setTop (mkF m 112 #[.val (.int x0), .val (.int x1), .val (.int x2), .val (.int x3), .val (.int x4), .val (.int x5), .val (.int cnt), .val (.int na), .val (.int nb), .val (.int nc), .val (.int nd), .val (.ref b1), .val (.ref b2), .val (.ref b4), .val (.ref b7), .unset, .unset, .unset, .unset, .unset, .unset, .unset, .unset] [(.ref b11), (.ref b11)])) (fun _ k => XS.dup X11.here hx rfl (hb hby at_111) rfl rfl k) ?_
            have c12 := (Sta.ext E11 fj108_0)
            obtain ⟨_, _, ⟨T13, L13, k13, n13⟩, -, X13, ⟨Lc13, hQ13, l13, y13, z13⟩, st13⟩ := X11.specialBack hx (y := (⟨"java/util/ArrayList", "<init>", "()V"⟩ : MethodName)) rfl hown (mvT hZ (hw _ (List.mem_of_getElem? (i := 4) rfl))) (mvT hZ (hw _ (List.mem_of_getElem? (i := 5) rfl))) (mvT hZ (hw _ (List.mem_of_getElem? (i := 6) rfl))) (by decide) (backOf (W := 1) (rm1 l Z a0 hw [] b11 w_D h11 n0 Z11 A11 F11_modCount F11_elementData F11_size ge_b11 c12) hZ (hw _ (List.mem_of_getElem? (i := 6) rfl)) (hw _ (List.mem_of_getElem? (i := 3) rfl)) (by decide) (by decide)) (g := (mkF m 112 #[.val (.int x0), .val (.int x1), .val (.int x2), .val (.int x3), .val (.int x4), .val (.int x5), .val (.int cnt), .val (.int na), .val (.int nb), .val (.int nc), .val (.int nd), .val (.ref b1), .val (.ref b2), .val (.ref b4), .val (.ref b7), .unset, .unset, .unset, .unset, .unset, .unset, .unset, .unset] [(.ref b11), (.ref b11)])) rfl (by rw [hml]; rfl) (Steps.refl _) (a := b11) (argsL := []) (rest := [(.ref b11)]) (lenOf pd_0 rfl) rfl (by show 2 * 0 + _ ≤ _; exact Nat.le_of_eq rfl) (hb hby at_112) (fun _ _ => ⟨rfl, e11, (by decide : 5 + 0 ≤ _), (by decide : 31 + 0 ≤ _)⟩)
            dsimp only [Pt.U, Pt.locs, Pt.cells, Pt.slots] at X13 l13 y13 z13 st13 hQ13
            subst l13 y13 z13
            obtain ⟨rfl, N13q, K13, f13_0, f13_1, f13_2, f13_3⟩ := hQ13
            have N13 := Fr.app Nj108 N13q
            have Z13 : n0 ≤ T13.heap.size := Nat.le_trans Z11 K13.1
            refine Done.st (B := T13.setTop (mkF m 115 #[.val (.int x0), .val (.int x1), .val (.int x2), .val (.int x3), .val (.int x4), .val (.int x5), .val (.int cnt), .val (.int na), .val (.int nb), .val (.int nc), .val (.int nd), .val (.ref b1), .val (.ref b2), .val (.ref b4), .val (.ref b7), .unset, .unset, .unset, .unset, .unset, .unset, .unset, .unset] [(.ref b11)])) (fun _ k => st13.trans k) ?_
            refine Done.st (B := T13.setTop (mkF m 117 #[.val (.int x0), .val (.int x1), .val (.int x2), .val (.int x3), .val (.int x4), .val (.int x5), .val (.int cnt), .val (.int na), .val (.int nb), .val (.int nc), .val (.int nd), .val (.ref b1), .val (.ref b2), .val (.ref b4), .val (.ref b7), .val (.ref b11), .unset, .unset, .unset, .unset, .unset, .unset, .unset] [])) (fun _ k => XS.astore X13.here hx rfl (hb hby at_115) rfl rfl (l' := #[.val (.int x0), .val (.int x1), .val (.int x2), .val (.int x3), .val (.int x4), .val (.int x5), .val (.int cnt), .val (.int na), .val (.int nb), .val (.int nc), .val (.int nd), .val (.ref b1), .val (.ref b2), .val (.ref b4), .val (.ref b7), .val (.ref b11), .unset, .unset, .unset, .unset, .unset, .unset, .unset]) rfl k) ?_
            refine Done.st (B := T13.setTop (mkF m 118 #[.val (.int x0), .val (.int x1), .val (.int x2), .val (.int x3), .val (.int x4), .val (.int x5), .val (.int cnt), .val (.int na), .val (.int nb), .val (.int nc), .val (.int nd), .val (.ref b1), .val (.ref b2), .val (.ref b4), .val (.ref b7), .val (.ref b11), .unset, .unset, .unset, .unset, .unset, .unset, .unset] [(.long (0 : Int64))])) (fun _ k => XS.lconst X13.here hx rfl (hb hby at_117) k) ?_
            refine Done.st (B := T13.setTop (mkF m 120 #[.val (.int x0), .val (.int x1), .val (.int x2), .val (.int x3), .val (.int x4), .val (.int x5), .val (.int cnt), .val (.int na), .val (.int nb), .val (.int nc), .val (.int nd), .val (.ref b1), .val (.ref b2), .val (.ref b4), .val (.ref b7), .val (.ref b11), .val (.long (0 : Int64)), .second, .unset, .unset, .unset, .unset, .unset] [])) (fun _ k => XS.lstore X13.here hx rfl (hb hby at_118) rfl (l' := #[.val (.int x0), .val (.int x1), .val (.int x2), .val (.int x3), .val (.int x4), .val (.int x5), .val (.int cnt), .val (.int na), .val (.int nb), .val (.int nc), .val (.int nd), .val (.ref b1), .val (.ref b2), .val (.ref b4), .val (.ref b7), .val (.ref b11), .val (.long (0 : Int64)), .second, .unset, .unset, .unset, .unset, .unset]) rfl k) ?_
            rcases own_five cnt with (hk | hk | hk | hk) | hk | hk
            · refine Done.st (B := T13.setTop (mkF m 122 #[.val (.int x0), .val (.int x1), .val (.int x2), .val (.int x3), .val (.int x4), .val (.int x5), .val (.int cnt), .val (.int na), .val (.int nb), .val (.int nc), .val (.int nd), .val (.ref b1), .val (.ref b2), .val (.ref b4), .val (.ref b7), .val (.ref b11), .val (.long (0 : Int64)), .second, .unset, .unset, .unset, .unset, .unset] [(.int cnt)])) (fun _ k => XS.iload X13.here hx rfl (hb hby at_120) rfl k) ?_
              refine Done.st (B := T13.setTop (mkF m 123 #[.val (.int x0), .val (.int x1), .val (.int x2), .val (.int x3), .val (.int x4), .val (.int x5), .val (.int cnt), .val (.int na), .val (.int nb), .val (.int nc), .val (.int nd), .val (.ref b1), .val (.ref b2), .val (.ref b4), .val (.ref b7), .val (.ref b11), .val (.long (0 : Int64)), .second, .unset, .unset, .unset, .unset, .unset] [(.int (1 : Int32)), (.int cnt)])) (fun _ k => XS.iconst X13.here hx rfl (hb hby at_122) k) ?_
              refine Done.st (B := T13.setTop (mkF m 142 #[.val (.int x0), .val (.int x1), .val (.int x2), .val (.int x3), .val (.int x4), .val (.int x5), .val (.int cnt), .val (.int na), .val (.int nb), .val (.int nc), .val (.int nd), .val (.ref b1), .val (.ref b2), .val (.ref b4), .val (.ref b7), .val (.ref b11), .val (.long (0 : Int64)), .second, .unset, .unset, .unset, .unset, .unset] [])) (fun _ k => XS.icmpYes X13.here hx rfl (pc0 := 123) (pc' := 142) rfl (hb hby at_123) rfl (tlt (by rw [hk]; decide : cnt < (1 : Int32))).1 (by decide) (by decide) k) ?_
              refine Done.st (B := T13.setTop (mkF m 144 #[.val (.int x0), .val (.int x1), .val (.int x2), .val (.int x3), .val (.int x4), .val (.int x5), .val (.int cnt), .val (.int na), .val (.int nb), .val (.int nc), .val (.int nd), .val (.ref b1), .val (.ref b2), .val (.ref b4), .val (.ref b7), .val (.ref b11), .val (.long (0 : Int64)), .second, .unset, .unset, .unset, .unset, .unset] [(.int cnt)])) (fun _ k => XS.iload X13.here hx rfl (hb hby at_142) rfl k) ?_
              refine Done.st (B := T13.setTop (mkF m 145 #[.val (.int x0), .val (.int x1), .val (.int x2), .val (.int x3), .val (.int x4), .val (.int x5), .val (.int cnt), .val (.int na), .val (.int nb), .val (.int nc), .val (.int nd), .val (.ref b1), .val (.ref b2), .val (.ref b4), .val (.ref b7), .val (.ref b11), .val (.long (0 : Int64)), .second, .unset, .unset, .unset, .unset, .unset] [(.int (2 : Int32)), (.int cnt)])) (fun _ k => XS.iconst X13.here hx rfl (hb hby at_144) k) ?_
              refine Done.st (B := T13.setTop (mkF m 164 #[.val (.int x0), .val (.int x1), .val (.int x2), .val (.int x3), .val (.int x4), .val (.int x5), .val (.int cnt), .val (.int na), .val (.int nb), .val (.int nc), .val (.int nd), .val (.ref b1), .val (.ref b2), .val (.ref b4), .val (.ref b7), .val (.ref b11), .val (.long (0 : Int64)), .second, .unset, .unset, .unset, .unset, .unset] [])) (fun _ k => XS.icmpYes X13.here hx rfl (pc0 := 145) (pc' := 164) rfl (hb hby at_145) rfl (tlt (by rw [hk]; decide : cnt < (2 : Int32))).1 (by decide) (by decide) k) ?_
              refine Done.st (B := T13.setTop (mkF m 166 #[.val (.int x0), .val (.int x1), .val (.int x2), .val (.int x3), .val (.int x4), .val (.int x5), .val (.int cnt), .val (.int na), .val (.int nb), .val (.int nc), .val (.int nd), .val (.ref b1), .val (.ref b2), .val (.ref b4), .val (.ref b7), .val (.ref b11), .val (.long (0 : Int64)), .second, .unset, .unset, .unset, .unset, .unset] [(.int cnt)])) (fun _ k => XS.iload X13.here hx rfl (hb hby at_164) rfl k) ?_
              refine Done.st (B := T13.setTop (mkF m 167 #[.val (.int x0), .val (.int x1), .val (.int x2), .val (.int x3), .val (.int x4), .val (.int x5), .val (.int cnt), .val (.int na), .val (.int nb), .val (.int nc), .val (.int nd), .val (.ref b1), .val (.ref b2), .val (.ref b4), .val (.ref b7), .val (.ref b11), .val (.long (0 : Int64)), .second, .unset, .unset, .unset, .unset, .unset] [(.int (3 : Int32)), (.int cnt)])) (fun _ k => XS.iconst X13.here hx rfl (hb hby at_166) k) ?_
              refine Done.st (B := T13.setTop (mkF m 186 #[.val (.int x0), .val (.int x1), .val (.int x2), .val (.int x3), .val (.int x4), .val (.int x5), .val (.int cnt), .val (.int na), .val (.int nb), .val (.int nc), .val (.int nd), .val (.ref b1), .val (.ref b2), .val (.ref b4), .val (.ref b7), .val (.ref b11), .val (.long (0 : Int64)), .second, .unset, .unset, .unset, .unset, .unset] [])) (fun _ k => XS.icmpYes X13.here hx rfl (pc0 := 167) (pc' := 186) rfl (hb hby at_167) rfl (tlt (by rw [hk]; decide : cnt < (3 : Int32))).1 (by decide) (by decide) k) ?_
              refine Done.st (B := T13.setTop (mkF m 188 #[.val (.int x0), .val (.int x1), .val (.int x2), .val (.int x3), .val (.int x4), .val (.int x5), .val (.int cnt), .val (.int na), .val (.int nb), .val (.int nc), .val (.int nd), .val (.ref b1), .val (.ref b2), .val (.ref b4), .val (.ref b7), .val (.ref b11), .val (.long (0 : Int64)), .second, .unset, .unset, .unset, .unset, .unset] [(.int cnt)])) (fun _ k => XS.iload X13.here hx rfl (hb hby at_186) rfl k) ?_
              refine Done.st (B := T13.setTop (mkF m 189 #[.val (.int x0), .val (.int x1), .val (.int x2), .val (.int x3), .val (.int x4), .val (.int x5), .val (.int cnt), .val (.int na), .val (.int nb), .val (.int nc), .val (.int nd), .val (.ref b1), .val (.ref b2), .val (.ref b4), .val (.ref b7), .val (.ref b11), .val (.long (0 : Int64)), .second, .unset, .unset, .unset, .unset, .unset] [(.int (4 : Int32)), (.int cnt)])) (fun _ k => XS.iconst X13.here hx rfl (hb hby at_188) k) ?_
              refine Done.st (B := T13.setTop (mkF m 208 #[.val (.int x0), .val (.int x1), .val (.int x2), .val (.int x3), .val (.int x4), .val (.int x5), .val (.int cnt), .val (.int na), .val (.int nb), .val (.int nc), .val (.int nd), .val (.ref b1), .val (.ref b2), .val (.ref b4), .val (.ref b7), .val (.ref b11), .val (.long (0 : Int64)), .second, .unset, .unset, .unset, .unset, .unset] [])) (fun _ k => XS.icmpYes X13.here hx rfl (pc0 := 189) (pc' := 208) rfl (hb hby at_189) rfl (tlt (by rw [hk]; decide : cnt < (4 : Int32))).1 (by decide) (by decide) k) ?_
              obtain ⟨T14, h14, X14, e14, E14, A14, D14, -, st14⟩ := newO X13 hx hZ hown (hw _ (List.mem_of_getElem? (i := 27) rfl)) (hw _ (List.mem_of_getElem? (i := 28) rfl)) (hw _ (List.mem_of_getElem? (i := 29) rfl)) rfl (g := (mkF m 208 #[.val (.int x0), .val (.int x1), .val (.int x2), .val (.int x3), .val (.int x4), .val (.int x5), .val (.int cnt), .val (.int na), .val (.int nb), .val (.int nc), .val (.int nd), .val (.ref b1), .val (.ref b2), .val (.ref b4), .val (.ref b7), .val (.ref b11), .val (.long (0 : Int64)), .second, .unset, .unset, .unset, .unset, .unset] [])) rfl (hb hby at_208) (by decide) (by decide)
              have c15 := ((fj108_1.ext E11).keep K13 (ninS ne_w_D_b11 nin0))
              have c16 := ((fj108_2.ext E11).keep K13 (ninS ne_b1_b11 nin0))
              have c17 := ((fj108_4.ext E11).keep K13 (ninS ne_b2_b11 nin0))
              have c18 := ((fj108_6.ext E11).keep K13 (ninS ne_b4_b11 nin0))
              have c19 := ((fj108_8.ext E11).keep K13 (ninS ne_b7_b11 nin0))
              obtain ⟨b14, g14⟩ : ∃ z, z = T13.heap.size := ⟨_, rfl⟩
              rw [← g14] at A14 D14 st14
              have ne_w_D_b14 : w_D ≠ b14 := Nat.ne_of_lt (Nat.lt_of_lt_of_le c15.lt (Nat.le_of_eq g14.symm))
              have ne_b1_b14 : b1 ≠ b14 := Nat.ne_of_lt (Nat.lt_of_lt_of_le c16.lt (Nat.le_of_eq g14.symm))
              have ne_b2_b14 : b2 ≠ b14 := Nat.ne_of_lt (Nat.lt_of_lt_of_le c17.lt (Nat.le_of_eq g14.symm))
              have ne_b4_b14 : b4 ≠ b14 := Nat.ne_of_lt (Nat.lt_of_lt_of_le c18.lt (Nat.le_of_eq g14.symm))
              have ne_b7_b14 : b7 ≠ b14 := Nat.ne_of_lt (Nat.lt_of_lt_of_le c19.lt (Nat.le_of_eq g14.symm))
              have ne_b11_b14 : b11 ≠ b14 := Nat.ne_of_lt (Nat.lt_of_lt_of_le f13_0.lt (Nat.le_of_eq g14.symm))
              have ge_b14 : n0 ≤ b14 := Nat.le_trans Z13 (Nat.le_of_eq g14.symm)
              have Z14 : n0 ≤ h14.size := Nat.le_trans Z13 E14.1
              have F14_tests : Fld Z h14 b14 "com/example/percurso/percurso/suite/Suite" "tests" "[[I" .null := D14 (Or.inr (hw _ (List.mem_of_getElem? (i := 48) rfl))) (ty := (.array (.array .int))) (by decide)
              refine Done.st (B := T14.setTop (mkF m 211 #[.val (.int x0), .val (.int x1), .val (.int x2), .val (.int x3), .val (.int x4), .val (.int x5), .val (.int cnt), .val (.int na), .val (.int nb), .val (.int nc), .val (.int nd), .val (.ref b1), .val (.ref b2), .val (.ref b4), .val (.ref b7), .val (.ref b11), .val (.long (0 : Int64)), .second, .unset, .unset, .unset, .unset, .unset] [(.ref b14)])) (fun _ k => st14 _ k) ?_
              refine Done.st (B := T14.setTop (mkF m 212 #[.val (.int x0), .val (.int x1), .val (.int x2), .val (.int x3), .val (.int x4), .val (.int x5), .val (.int cnt), .val (.int na), .val (.int nb), .val (.int nc), .val (.int nd), .val (.ref b1), .val (.ref b2), .val (.ref b4), .val (.ref b7), .val (.ref b11), .val (.long (0 : Int64)), .second, .unset, .unset, .unset, .unset, .unset] [(.ref b14), (.ref b14)])) (fun _ k => XS.dup X14.here hx rfl (hb hby at_211) rfl rfl k) ?_
              refine Done.st (B := T14.setTop (mkF m 214 #[.val (.int x0), .val (.int x1), .val (.int x2), .val (.int x3), .val (.int x4), .val (.int x5), .val (.int cnt), .val (.int na), .val (.int nb), .val (.int nc), .val (.int nd), .val (.ref b1), .val (.ref b2), .val (.ref b4), .val (.ref b7), .val (.ref b11), .val (.long (0 : Int64)), .second, .unset, .unset, .unset, .unset, .unset] [(.ref b11), (.ref b14), (.ref b14)])) (fun _ k => XS.aload X14.here hx rfl (hb hby at_212) rfl rfl k) ?_
              have c20 := (Exa.ext E14 f13_0)
              have c21 := (Fld.ext E14 f13_1)
              have c22 := (Fld.ext E14 f13_2)
              have c23 := (Fld.ext E14 f13_3)
              obtain ⟨_, _, ⟨T24, L24, k24, n24⟩, -, X24, ⟨Lc24, hQ24, l24, y24, z24⟩, st24⟩ := X14.specialBack hx (y := (⟨"com/example/percurso/percurso/suite/Suite", "<init>", "(Ljava/util/List;)V"⟩ : MethodName)) rfl hown (mvT hZ (hw _ (List.mem_of_getElem? (i := 30) rfl))) (mvT hZ (hw _ (List.mem_of_getElem? (i := 31) rfl))) (mvT hZ (hw _ (List.mem_of_getElem? (i := 32) rfl))) (by decide) (backOf (W := 1) (rmSI_0 l Z a0 hw [] b14 b11 (0 : Int32) w_D kw_D   h14 n0 Z14 F14_tests A14 ge_b14 c20 c21 c22 c23 (Ne.symm ne_b11_b14)) hZ (hw _ (List.mem_of_getElem? (i := 32) rfl)) (hw _ (List.mem_of_getElem? (i := 29) rfl)) (by decide) (by decide)) (g := (mkF m 214 #[.val (.int x0), .val (.int x1), .val (.int x2), .val (.int x3), .val (.int x4), .val (.int x5), .val (.int cnt), .val (.int na), .val (.int nb), .val (.int nc), .val (.int nd), .val (.ref b1), .val (.ref b2), .val (.ref b4), .val (.ref b7), .val (.ref b11), .val (.long (0 : Int64)), .second, .unset, .unset, .unset, .unset, .unset] [(.ref b11), (.ref b14), (.ref b14)])) rfl (by rw [hml]; rfl) (Steps.refl _) (a := b14) (argsL := [(.ref b11)]) (rest := [(.ref b14)]) (lenOf pd_8 rfl) rfl (by show 2 * 0 + _ ≤ _; exact Nat.le_of_eq rfl) (hb hby at_214) (fun _ _ => ⟨rfl, e14, (by decide : 6 + 1 ≤ _), (by decide : 32 + 0 ≤ _)⟩)
              dsimp only [Pt.U, Pt.locs, Pt.cells, Pt.slots] at X24 l24 y24 z24 st24 hQ24
              subst l24 y24 z24
              have c25 := (c15.ext E14)
              have c26 := (c16.ext E14)
              have c27 := (c17.ext E14)
              have c28 := (c18.ext E14)
              have c29 := (c19.ext E14)
              obtain ⟨u, ku, rfl, N24q, K24, f24_0, f24_1, f24_2, f24_3⟩ := hQ24
              have N24 := Fr.app N13 N24q
              have ne_w_D_u : w_D ≠ u := Nat.ne_of_lt (Nat.lt_of_lt_of_le c25.lt f24_0)
              have ne_b1_u : b1 ≠ u := Nat.ne_of_lt (Nat.lt_of_lt_of_le c26.lt f24_0)
              have ne_b2_u : b2 ≠ u := Nat.ne_of_lt (Nat.lt_of_lt_of_le c27.lt f24_0)
              have ne_b4_u : b4 ≠ u := Nat.ne_of_lt (Nat.lt_of_lt_of_le c28.lt f24_0)
              have ne_b7_u : b7 ≠ u := Nat.ne_of_lt (Nat.lt_of_lt_of_le c29.lt f24_0)
              have ne_b11_u : b11 ≠ u := Nat.ne_of_lt (Nat.lt_of_lt_of_le c20.lt f24_0)
              have ne_b14_u : b14 ≠ u := Nat.ne_of_lt (Nat.lt_of_lt_of_le A14.lt f24_0)
              have ge_u : n0 ≤ u := Nat.le_trans Z14 f24_0
              have Z24 : n0 ≤ T24.heap.size := Nat.le_trans Z14 K24.1
              refine Done.st (B := T24.setTop (mkF m 217 #[.val (.int x0), .val (.int x1), .val (.int x2), .val (.int x3), .val (.int x4), .val (.int x5), .val (.int cnt), .val (.int na), .val (.int nb), .val (.int nc), .val (.int nd), .val (.ref b1), .val (.ref b2), .val (.ref b4), .val (.ref b7), .val (.ref b11), .val (.long (0 : Int64)), .second, .unset, .unset, .unset, .unset, .unset] [(.ref b14)])) (fun _ k => st24.trans k) ?_
              refine Done.st (B := T24.setTop (mkF m 219 #[.val (.int x0), .val (.int x1), .val (.int x2), .val (.int x3), .val (.int x4), .val (.int x5), .val (.int cnt), .val (.int na), .val (.int nb), .val (.int nc), .val (.int nd), .val (.ref b1), .val (.ref b2), .val (.ref b4), .val (.ref b7), .val (.ref b11), .val (.long (0 : Int64)), .second, .val (.ref b14), .unset, .unset, .unset, .unset] [])) (fun _ k => XS.astore X24.here hx rfl (hb hby at_217) rfl rfl (l' := #[.val (.int x0), .val (.int x1), .val (.int x2), .val (.int x3), .val (.int x4), .val (.int x5), .val (.int cnt), .val (.int na), .val (.int nb), .val (.int nc), .val (.int nd), .val (.ref b1), .val (.ref b2), .val (.ref b4), .val (.ref b7), .val (.ref b11), .val (.long (0 : Int64)), .second, .val (.ref b14), .unset, .unset, .unset, .unset]) rfl k) ?_
              refine Done.st (B := T24.setTop (mkF m 221 #[.val (.int x0), .val (.int x1), .val (.int x2), .val (.int x3), .val (.int x4), .val (.int x5), .val (.int cnt), .val (.int na), .val (.int nb), .val (.int nc), .val (.int nd), .val (.ref b1), .val (.ref b2), .val (.ref b4), .val (.ref b7), .val (.ref b11), .val (.long (0 : Int64)), .second, .val (.ref b14), .unset, .unset, .unset, .unset] [(.ref b14)])) (fun _ k => XS.aload X24.here hx rfl (hb hby at_219) rfl rfl k) ?_
              obtain ⟨cq30, kq30, q30a, q30b, q30c⟩ := isOf hZ rfl f24_1
              obtain ⟨_, _, ⟨T30, L30, k30, n30⟩, -, X30, ⟨Lc30, hQ30, l30, y30, z30⟩, st30⟩ := X24.virtualBack hx (y := (⟨"com/example/percurso/percurso/suite/Suite", "inputCount", "()J"⟩ : MethodName)) (z := (⟨"com/example/percurso/percurso/suite/Suite", "inputCount", "()J"⟩ : MethodName)) hown (mvT hZ (hw _ (List.mem_of_getElem? (i := 49) rfl))) (mvT hZ (hw _ (List.mem_of_getElem? (i := 50) rfl))) (notFace_of_selects (args := #[]) (mvT hZ (hw _ (List.mem_of_getElem? (i := 52) rfl)))) (mvT hZ (hw _ (List.mem_of_getElem? (i := 52) rfl))) (mvT hZ (hw _ (List.mem_of_getElem? (i := 51) rfl))) (by decide) (backOf (W := 0) (rmIC_0 l Z a0 hw [] b14 u ku   T24.heap n0 Z24 f24_2 f24_3 ) hZ (hw _ (List.mem_of_getElem? (i := 53) rfl)) (hw _ (List.mem_of_getElem? (i := 29) rfl)) (by decide) (by decide)) q30a q30c (g := (mkF m 221 #[.val (.int x0), .val (.int x1), .val (.int x2), .val (.int x3), .val (.int x4), .val (.int x5), .val (.int cnt), .val (.int na), .val (.int nb), .val (.int nc), .val (.int nd), .val (.ref b1), .val (.ref b2), .val (.ref b4), .val (.ref b7), .val (.ref b11), .val (.long (0 : Int64)), .second, .val (.ref b14), .unset, .unset, .unset, .unset] [(.ref b14)])) rfl (by rw [hml]; rfl) (Steps.refl _) (argsL := []) (rest := []) (lenOf pd_9 rfl) rfl (by show 2 * 0 + _ ≤ _; exact Nat.le_of_eq rfl) (hb hby at_221) (fun _ _ => ⟨rfl, rfl, (by decide : 7 + 0 ≤ _), (by decide : 32 + 0 ≤ _)⟩)
              dsimp only [Pt.U, Pt.locs, Pt.cells, Pt.slots] at X30 l30 y30 z30 st30 hQ30
              subst l30 y30 z30
              obtain ⟨rfl, N30q, e30⟩ := hQ30
              have N30 := Fr.app N24 N30q
              refine Done.st (B := T30.setTop (mkF m 224 #[.val (.int x0), .val (.int x1), .val (.int x2), .val (.int x3), .val (.int x4), .val (.int x5), .val (.int cnt), .val (.int na), .val (.int nb), .val (.int nc), .val (.int nd), .val (.ref b1), .val (.ref b2), .val (.ref b4), .val (.ref b7), .val (.ref b11), .val (.long (0 : Int64)), .second, .val (.ref b14), .unset, .unset, .unset, .unset] [(.long (0 : Int64))])) (fun _ k => st30.trans k) ?_
              refine Done.st (B := T30.setTop (mkF m 226 #[.val (.int x0), .val (.int x1), .val (.int x2), .val (.int x3), .val (.int x4), .val (.int x5), .val (.int cnt), .val (.int na), .val (.int nb), .val (.int nc), .val (.int nd), .val (.ref b1), .val (.ref b2), .val (.ref b4), .val (.ref b7), .val (.ref b11), .val (.long (0 : Int64)), .second, .val (.ref b14), .val (.long (0 : Int64)), .second, .unset, .unset] [])) (fun _ k => XS.lstore X30.here hx rfl (hb hby at_224) rfl (l' := #[.val (.int x0), .val (.int x1), .val (.int x2), .val (.int x3), .val (.int x4), .val (.int x5), .val (.int cnt), .val (.int na), .val (.int nb), .val (.int nc), .val (.int nd), .val (.ref b1), .val (.ref b2), .val (.ref b4), .val (.ref b7), .val (.ref b11), .val (.long (0 : Int64)), .second, .val (.ref b14), .val (.long (0 : Int64)), .second, .unset, .unset]) rfl k) ?_
              refine Done.st (B := T30.setTop (mkF m 228 #[.val (.int x0), .val (.int x1), .val (.int x2), .val (.int x3), .val (.int x4), .val (.int x5), .val (.int cnt), .val (.int na), .val (.int nb), .val (.int nc), .val (.int nd), .val (.ref b1), .val (.ref b2), .val (.ref b4), .val (.ref b7), .val (.ref b11), .val (.long (0 : Int64)), .second, .val (.ref b14), .val (.long (0 : Int64)), .second, .unset, .unset] [(.ref b14)])) (fun _ k => XS.aload X30.here hx rfl (hb hby at_226) rfl rfl k) ?_
              obtain ⟨cq31, kq31, q31a, q31b, q31c⟩ := isOf hZ e30 f24_1
              obtain ⟨_, _, ⟨T31, L31, k31, n31⟩, -, X31, ⟨Lc31, hQ31, l31, y31, z31⟩, st31⟩ := X30.virtualBack hx (y := (⟨"com/example/percurso/percurso/suite/Suite", "inputCount", "()J"⟩ : MethodName)) (z := (⟨"com/example/percurso/percurso/suite/Suite", "inputCount", "()J"⟩ : MethodName)) hown (mvT hZ (hw _ (List.mem_of_getElem? (i := 49) rfl))) (mvT hZ (hw _ (List.mem_of_getElem? (i := 50) rfl))) (notFace_of_selects (args := #[]) (mvT hZ (hw _ (List.mem_of_getElem? (i := 52) rfl)))) (mvT hZ (hw _ (List.mem_of_getElem? (i := 52) rfl))) (mvT hZ (hw _ (List.mem_of_getElem? (i := 51) rfl))) (by decide) (backOf (W := 0) (rmIC_0 l Z a0 hw [] b14 u ku   T24.heap n0 Z24 f24_2 f24_3 ) hZ (hw _ (List.mem_of_getElem? (i := 53) rfl)) (hw _ (List.mem_of_getElem? (i := 29) rfl)) (by decide) (by decide)) q31a q31c (g := (mkF m 228 #[.val (.int x0), .val (.int x1), .val (.int x2), .val (.int x3), .val (.int x4), .val (.int x5), .val (.int cnt), .val (.int na), .val (.int nb), .val (.int nc), .val (.int nd), .val (.ref b1), .val (.ref b2), .val (.ref b4), .val (.ref b7), .val (.ref b11), .val (.long (0 : Int64)), .second, .val (.ref b14), .val (.long (0 : Int64)), .second, .unset, .unset] [(.ref b14)])) rfl (by rw [hml]; rfl) (Steps.refl _) (argsL := []) (rest := []) (lenOf pd_9 rfl) rfl (by show 2 * 0 + _ ≤ _; exact Nat.le_of_eq rfl) (hb hby at_228) (fun _ _ => ⟨rfl, e30, (by decide : 7 + 0 ≤ _), (by decide : 32 + 0 ≤ _)⟩)
              dsimp only [Pt.U, Pt.locs, Pt.cells, Pt.slots] at X31 l31 y31 z31 st31 hQ31
              subst l31 y31 z31
              obtain ⟨rfl, N31q, e31⟩ := hQ31
              have N31 := Fr.app N30 N31q
              refine Done.st (B := T31.setTop (mkF m 231 #[.val (.int x0), .val (.int x1), .val (.int x2), .val (.int x3), .val (.int x4), .val (.int x5), .val (.int cnt), .val (.int na), .val (.int nb), .val (.int nc), .val (.int nd), .val (.ref b1), .val (.ref b2), .val (.ref b4), .val (.ref b7), .val (.ref b11), .val (.long (0 : Int64)), .second, .val (.ref b14), .val (.long (0 : Int64)), .second, .unset, .unset] [(.long (0 : Int64))])) (fun _ k => st31.trans k) ?_
              refine Done.st (B := T31.setTop (mkF m 233 #[.val (.int x0), .val (.int x1), .val (.int x2), .val (.int x3), .val (.int x4), .val (.int x5), .val (.int cnt), .val (.int na), .val (.int nb), .val (.int nc), .val (.int nd), .val (.ref b1), .val (.ref b2), .val (.ref b4), .val (.ref b7), .val (.ref b11), .val (.long (0 : Int64)), .second, .val (.ref b14), .val (.long (0 : Int64)), .second, .val (.long (0 : Int64)), .second] [])) (fun _ k => XS.lstore X31.here hx rfl (hb hby at_231) rfl (l' := #[.val (.int x0), .val (.int x1), .val (.int x2), .val (.int x3), .val (.int x4), .val (.int x5), .val (.int cnt), .val (.int na), .val (.int nb), .val (.int nc), .val (.int nd), .val (.ref b1), .val (.ref b2), .val (.ref b4), .val (.ref b7), .val (.ref b11), .val (.long (0 : Int64)), .second, .val (.ref b14), .val (.long (0 : Int64)), .second, .val (.long (0 : Int64)), .second]) rfl k) ?_
              refine Done.st (B := T31.setTop (mkF m 235 #[.val (.int x0), .val (.int x1), .val (.int x2), .val (.int x3), .val (.int x4), .val (.int x5), .val (.int cnt), .val (.int na), .val (.int nb), .val (.int nc), .val (.int nd), .val (.ref b1), .val (.ref b2), .val (.ref b4), .val (.ref b7), .val (.ref b11), .val (.long (0 : Int64)), .second, .val (.ref b14), .val (.long (0 : Int64)), .second, .val (.long (0 : Int64)), .second] [(.long (0 : Int64))])) (fun _ k => XS.lload X31.here hx rfl (hb hby at_233) rfl k) ?_
              refine Done.st (B := T31.setTop (mkF m 237 #[.val (.int x0), .val (.int x1), .val (.int x2), .val (.int x3), .val (.int x4), .val (.int x5), .val (.int cnt), .val (.int na), .val (.int nb), .val (.int nc), .val (.int nd), .val (.ref b1), .val (.ref b2), .val (.ref b4), .val (.ref b7), .val (.ref b11), .val (.long (0 : Int64)), .second, .val (.ref b14), .val (.long (0 : Int64)), .second, .val (.long (0 : Int64)), .second] [(.long (0 : Int64)), (.long (0 : Int64))])) (fun _ k => XS.lload X31.here hx rfl (hb hby at_235) rfl k) ?_
              refine Done.st (B := T31.setTop (mkF m 238 #[.val (.int x0), .val (.int x1), .val (.int x2), .val (.int x3), .val (.int x4), .val (.int x5), .val (.int cnt), .val (.int na), .val (.int nb), .val (.int nc), .val (.int nd), .val (.ref b1), .val (.ref b2), .val (.ref b4), .val (.ref b7), .val (.ref b11), .val (.long (0 : Int64)), .second, .val (.ref b14), .val (.long (0 : Int64)), .second, .val (.long (0 : Int64)), .second] [(.int (lcmpW (0 : Int64) (0 : Int64)))])) (fun _ k => XS.lcmp X31.here hx rfl (hb hby at_237) rfl k) ?_
              refine Done.st (B := T31.setTop (mkF m 241 #[.val (.int x0), .val (.int x1), .val (.int x2), .val (.int x3), .val (.int x4), .val (.int x5), .val (.int cnt), .val (.int na), .val (.int nb), .val (.int nc), .val (.int nd), .val (.ref b1), .val (.ref b2), .val (.ref b4), .val (.ref b7), .val (.ref b11), .val (.long (0 : Int64)), .second, .val (.ref b14), .val (.long (0 : Int64)), .second, .val (.long (0 : Int64)), .second] [])) (fun _ k => XS.ifNo X31.here hx rfl (hb hby at_238) rfl ((if0 _ _).trans (teq ((lw_eq _ _).mpr (rfl : (0 : Int64) = (0 : Int64)))).2) k) ?_
              refine Done.st (B := T31.setTop (mkF m 243 #[.val (.int x0), .val (.int x1), .val (.int x2), .val (.int x3), .val (.int x4), .val (.int x5), .val (.int cnt), .val (.int na), .val (.int nb), .val (.int nc), .val (.int nd), .val (.ref b1), .val (.ref b2), .val (.ref b4), .val (.ref b7), .val (.ref b11), .val (.long (0 : Int64)), .second, .val (.ref b14), .val (.long (0 : Int64)), .second, .val (.long (0 : Int64)), .second] [(.long (0 : Int64))])) (fun _ k => XS.lload X31.here hx rfl (hb hby at_241) rfl k) ?_
              refine Done.st (B := T31.setTop (mkF m 245 #[.val (.int x0), .val (.int x1), .val (.int x2), .val (.int x3), .val (.int x4), .val (.int x5), .val (.int cnt), .val (.int na), .val (.int nb), .val (.int nc), .val (.int nd), .val (.ref b1), .val (.ref b2), .val (.ref b4), .val (.ref b7), .val (.ref b11), .val (.long (0 : Int64)), .second, .val (.ref b14), .val (.long (0 : Int64)), .second, .val (.long (0 : Int64)), .second] [(.long (0 : Int64)), (.long (0 : Int64))])) (fun _ k => XS.lload X31.here hx rfl (hb hby at_243) rfl k) ?_
              refine Done.st (B := T31.setTop (mkF m 246 #[.val (.int x0), .val (.int x1), .val (.int x2), .val (.int x3), .val (.int x4), .val (.int x5), .val (.int cnt), .val (.int na), .val (.int nb), .val (.int nc), .val (.int nd), .val (.ref b1), .val (.ref b2), .val (.ref b4), .val (.ref b7), .val (.ref b11), .val (.long (0 : Int64)), .second, .val (.ref b14), .val (.long (0 : Int64)), .second, .val (.long (0 : Int64)), .second] [(.int (lcmpW (0 : Int64) (0 : Int64)))])) (fun _ k => XS.lcmp X31.here hx rfl (hb hby at_245) rfl k) ?_
              refine Done.st (B := T31.setTop (mkF m 249 #[.val (.int x0), .val (.int x1), .val (.int x2), .val (.int x3), .val (.int x4), .val (.int x5), .val (.int cnt), .val (.int na), .val (.int nb), .val (.int nc), .val (.int nd), .val (.ref b1), .val (.ref b2), .val (.ref b4), .val (.ref b7), .val (.ref b11), .val (.long (0 : Int64)), .second, .val (.ref b14), .val (.long (0 : Int64)), .second, .val (.long (0 : Int64)), .second] [])) (fun _ k => XS.ifNo X31.here hx rfl (hb hby at_246) rfl ((if0 _ _).trans (teq ((lw_eq _ _).mpr (rfl : (0 : Int64) = (0 : Int64)))).2) k) ?_
              refine Done.st (B := T31.setTop (mkF m 250 #[.val (.int x0), .val (.int x1), .val (.int x2), .val (.int x3), .val (.int x4), .val (.int x5), .val (.int cnt), .val (.int na), .val (.int nb), .val (.int nc), .val (.int nd), .val (.ref b1), .val (.ref b2), .val (.ref b4), .val (.ref b7), .val (.ref b11), .val (.long (0 : Int64)), .second, .val (.ref b14), .val (.long (0 : Int64)), .second, .val (.long (0 : Int64)), .second] [(.int (1 : Int32))])) (fun _ k => XS.iconst X31.here hx rfl (hb hby at_249) k) ?_
              refine Done.st (B := T31.setTop (mkF m 254 #[.val (.int x0), .val (.int x1), .val (.int x2), .val (.int x3), .val (.int x4), .val (.int x5), .val (.int cnt), .val (.int na), .val (.int nb), .val (.int nc), .val (.int nd), .val (.ref b1), .val (.ref b2), .val (.ref b4), .val (.ref b7), .val (.ref b11), .val (.long (0 : Int64)), .second, .val (.ref b14), .val (.long (0 : Int64)), .second, .val (.long (0 : Int64)), .second] [(.int (1 : Int32))])) (fun _ k => XS.goto X31.here hx rfl (pc0 := 250) (pc' := 254) rfl (hb hby at_250) (by decide) (by decide) k) ?_
              obtain ⟨fs, hr, hrun, hended, hW, hsame⟩ := X31.leave (v := some (.int (1 : Int32))) (hlocks := hlk) (fun h => by rw [Bd.returns] at h; cases h)
              refine Done.fin (retN X31 hx (t := .boolean) Bd.returns (by simp) (hb hby at_254) hr) hrun hended ⟨_, _, rfl, ?_, ⟨_, rfl⟩, hW, hsame.mono (by decide) (by decide)⟩
              show Qrm0 Z x0 x1 x2 x3 x4 x5 w_D kw_D h0 n0 _ T31.heap _
              rw [e31]
              exact ⟨rfl, N31⟩
            · refine Done.st (B := T13.setTop (mkF m 122 #[.val (.int x0), .val (.int x1), .val (.int x2), .val (.int x3), .val (.int x4), .val (.int x5), .val (.int cnt), .val (.int na), .val (.int nb), .val (.int nc), .val (.int nd), .val (.ref b1), .val (.ref b2), .val (.ref b4), .val (.ref b7), .val (.ref b11), .val (.long (0 : Int64)), .second, .unset, .unset, .unset, .unset, .unset] [(.int cnt)])) (fun _ k => XS.iload X13.here hx rfl (hb hby at_120) rfl k) ?_
              refine Done.st (B := T13.setTop (mkF m 123 #[.val (.int x0), .val (.int x1), .val (.int x2), .val (.int x3), .val (.int x4), .val (.int x5), .val (.int cnt), .val (.int na), .val (.int nb), .val (.int nc), .val (.int nd), .val (.ref b1), .val (.ref b2), .val (.ref b4), .val (.ref b7), .val (.ref b11), .val (.long (0 : Int64)), .second, .unset, .unset, .unset, .unset, .unset] [(.int (1 : Int32)), (.int cnt)])) (fun _ k => XS.iconst X13.here hx rfl (hb hby at_122) k) ?_
              refine Done.st (B := T13.setTop (mkF m 126 #[.val (.int x0), .val (.int x1), .val (.int x2), .val (.int x3), .val (.int x4), .val (.int x5), .val (.int cnt), .val (.int na), .val (.int nb), .val (.int nc), .val (.int nd), .val (.ref b1), .val (.ref b2), .val (.ref b4), .val (.ref b7), .val (.ref b11), .val (.long (0 : Int64)), .second, .unset, .unset, .unset, .unset, .unset] [])) (fun _ k => XS.icmpNo X13.here hx rfl (hb hby at_123) rfl (flt (by rw [hk]; decide : ¬ (cnt < (1 : Int32)))).1 k) ?_
              refine Done.st (B := T13.setTop (mkF m 128 #[.val (.int x0), .val (.int x1), .val (.int x2), .val (.int x3), .val (.int x4), .val (.int x5), .val (.int cnt), .val (.int na), .val (.int nb), .val (.int nc), .val (.int nd), .val (.ref b1), .val (.ref b2), .val (.ref b4), .val (.ref b7), .val (.ref b11), .val (.long (0 : Int64)), .second, .unset, .unset, .unset, .unset, .unset] [(.ref b11)])) (fun _ k => XS.aload X13.here hx rfl (hb hby at_126) rfl rfl k) ?_
              refine Done.st (B := T13.setTop (mkF m 130 #[.val (.int x0), .val (.int x1), .val (.int x2), .val (.int x3), .val (.int x4), .val (.int x5), .val (.int cnt), .val (.int na), .val (.int nb), .val (.int nc), .val (.int nd), .val (.ref b1), .val (.ref b2), .val (.ref b4), .val (.ref b7), .val (.ref b11), .val (.long (0 : Int64)), .second, .unset, .unset, .unset, .unset, .unset] [(.ref b1), (.ref b11)])) (fun _ k => XS.aload X13.here hx rfl (hb hby at_128) rfl rfl k) ?_
              have c33 := (own_sta_keep c12 K13 (allS (own_ns_exa A11) all0))
              have c34 := ((fj108_1.ext E11).keep K13 (ninS ne_w_D_b11 nin0))
              have c35 := ((Exa.ext E11 fj108_3).keep K13)
              obtain ⟨cq36, kq36, q36a, q36b, q36c⟩ := isOf hZ rfl f13_0
              obtain ⟨_, _, ⟨T36, L36, k36, n36⟩, -, X36, ⟨Lc36, hQ36, l36, y36, z36⟩, st36⟩ := X13.virtualBack hx (y := (⟨"java/util/ArrayList", "add", "(Ljava/lang/Object;)Z"⟩ : MethodName)) (z := (⟨"java/util/ArrayList", "add", "(Ljava/lang/Object;)Z"⟩ : MethodName)) hown (mvT hZ (hw _ (List.mem_of_getElem? (i := 54) rfl))) (mvT hZ (hw _ (List.mem_of_getElem? (i := 55) rfl))) (notFace_of_selects (args := #[]) (mvT hZ (hw _ (List.mem_of_getElem? (i := 57) rfl)))) (mvT hZ (hw _ (List.mem_of_getElem? (i := 57) rfl))) (mvT hZ (hw _ (List.mem_of_getElem? (i := 56) rfl))) (by decide) (backOf (W := 0) (rmA1_0 l Z a0 hw [] b11 b1 (0 : Int32) w_D kw_D T13.heap n0 Z13 f13_0 f13_1 f13_2 f13_3 ge_b11 c33 c34 (Ne.symm ne_w_D_b11) c35) hZ (hw _ (List.mem_of_getElem? (i := 58) rfl)) (hw _ (List.mem_of_getElem? (i := 3) rfl)) (by decide) (by decide)) q36a q36c (g := (mkF m 130 #[.val (.int x0), .val (.int x1), .val (.int x2), .val (.int x3), .val (.int x4), .val (.int x5), .val (.int cnt), .val (.int na), .val (.int nb), .val (.int nc), .val (.int nd), .val (.ref b1), .val (.ref b2), .val (.ref b4), .val (.ref b7), .val (.ref b11), .val (.long (0 : Int64)), .second, .unset, .unset, .unset, .unset, .unset] [(.ref b1), (.ref b11)])) rfl (by rw [hml]; rfl) (Steps.refl _) (argsL := [(.ref b1)]) (rest := []) (lenOf pd_10 rfl) rfl (by show 2 * 0 + _ ≤ _; exact Nat.le_of_eq rfl) (hb hby at_130) (fun _ _ => ⟨rfl, rfl, (by decide : 5 + 1 ≤ _), (by decide : 31 + 10 ≤ _)⟩)
              dsimp only [Pt.U, Pt.locs, Pt.cells, Pt.slots] at X36 l36 y36 z36 st36 hQ36
              subst l36 y36 z36
              have c37 := ((fj108_2.ext E11).keep K13 (ninS ne_b1_b11 nin0))
              have c38 := ((fj108_4.ext E11).keep K13 (ninS ne_b2_b11 nin0))
              have c39 := ((fj108_6.ext E11).keep K13 (ninS ne_b4_b11 nin0))
              have c40 := ((fj108_8.ext E11).keep K13 (ninS ne_b7_b11 nin0))
              obtain ⟨g, kg, rfl, N36q, K36, f36_0, O_g, f36_2, f36_3, f36_4, f36_5, f36_6⟩ := hQ36
              have N36 := Fr.app N13 N36q
              have ne_w_D_g : w_D ≠ g := Nat.ne_of_lt (Nat.lt_of_lt_of_le c34.lt f36_0)
              have ne_b1_g : b1 ≠ g := Nat.ne_of_lt (Nat.lt_of_lt_of_le c37.lt f36_0)
              have ne_b2_g : b2 ≠ g := Nat.ne_of_lt (Nat.lt_of_lt_of_le c38.lt f36_0)
              have ne_b4_g : b4 ≠ g := Nat.ne_of_lt (Nat.lt_of_lt_of_le c39.lt f36_0)
              have ne_b7_g : b7 ≠ g := Nat.ne_of_lt (Nat.lt_of_lt_of_le c40.lt f36_0)
              have ne_b11_g : b11 ≠ g := Nat.ne_of_lt (Nat.lt_of_lt_of_le f13_0.lt f36_0)
              have ge_g : n0 ≤ g := Nat.le_trans Z13 f36_0
              have Z36 : n0 ≤ T36.heap.size := Nat.le_trans Z13 K36.1
              refine Done.st (B := T36.setTop (mkF m 133 #[.val (.int x0), .val (.int x1), .val (.int x2), .val (.int x3), .val (.int x4), .val (.int x5), .val (.int cnt), .val (.int na), .val (.int nb), .val (.int nc), .val (.int nd), .val (.ref b1), .val (.ref b2), .val (.ref b4), .val (.ref b7), .val (.ref b11), .val (.long (0 : Int64)), .second, .unset, .unset, .unset, .unset, .unset] [(.int (1 : Int32))])) (fun _ k => st36.trans k) ?_
              refine Done.st (B := T36.setTop (mkF m 134 #[.val (.int x0), .val (.int x1), .val (.int x2), .val (.int x3), .val (.int x4), .val (.int x5), .val (.int cnt), .val (.int na), .val (.int nb), .val (.int nc), .val (.int nd), .val (.ref b1), .val (.ref b2), .val (.ref b4), .val (.ref b7), .val (.ref b11), .val (.long (0 : Int64)), .second, .unset, .unset, .unset, .unset, .unset] [])) (fun _ k => XS.pop X36.here hx rfl (hb hby at_133) rfl rfl k) ?_
              refine Done.st (B := T36.setTop (mkF m 136 #[.val (.int x0), .val (.int x1), .val (.int x2), .val (.int x3), .val (.int x4), .val (.int x5), .val (.int cnt), .val (.int na), .val (.int nb), .val (.int nc), .val (.int nd), .val (.ref b1), .val (.ref b2), .val (.ref b4), .val (.ref b7), .val (.ref b11), .val (.long (0 : Int64)), .second, .unset, .unset, .unset, .unset, .unset] [(.long (0 : Int64))])) (fun _ k => XS.lload X36.here hx rfl (hb hby at_134) rfl k) ?_
              refine Done.st (B := T36.setTop (mkF m 138 #[.val (.int x0), .val (.int x1), .val (.int x2), .val (.int x3), .val (.int x4), .val (.int x5), .val (.int cnt), .val (.int na), .val (.int nb), .val (.int nc), .val (.int nd), .val (.ref b1), .val (.ref b2), .val (.ref b4), .val (.ref b7), .val (.ref b11), .val (.long (0 : Int64)), .second, .unset, .unset, .unset, .unset, .unset] [(.int na), (.long (0 : Int64))])) (fun _ k => XS.iload X36.here hx rfl (hb hby at_136) rfl k) ?_
              refine Done.st (B := T36.setTop (mkF m 139 #[.val (.int x0), .val (.int x1), .val (.int x2), .val (.int x3), .val (.int x4), .val (.int x5), .val (.int cnt), .val (.int na), .val (.int nb), .val (.int nc), .val (.int nd), .val (.ref b1), .val (.ref b2), .val (.ref b4), .val (.ref b7), .val (.ref b11), .val (.long (0 : Int64)), .second, .unset, .unset, .unset, .unset, .unset] [(.long (na.toInt64)), (.long (0 : Int64))])) (fun _ k => XS.i2l X36.here hx rfl (hb hby at_138) rfl k) ?_
              refine Done.st (B := T36.setTop (mkF m 140 #[.val (.int x0), .val (.int x1), .val (.int x2), .val (.int x3), .val (.int x4), .val (.int x5), .val (.int cnt), .val (.int na), .val (.int nb), .val (.int nc), .val (.int nd), .val (.ref b1), .val (.ref b2), .val (.ref b4), .val (.ref b7), .val (.ref b11), .val (.long (0 : Int64)), .second, .unset, .unset, .unset, .unset, .unset] [(.long ((0 : Int64) + (na.toInt64)))])) (fun _ k => XS.ladd X36.here hx rfl (hb hby at_139) rfl k) ?_
              refine Done.st (B := T36.setTop (mkF m 142 #[.val (.int x0), .val (.int x1), .val (.int x2), .val (.int x3), .val (.int x4), .val (.int x5), .val (.int cnt), .val (.int na), .val (.int nb), .val (.int nc), .val (.int nd), .val (.ref b1), .val (.ref b2), .val (.ref b4), .val (.ref b7), .val (.ref b11), .val (.long ((0 : Int64) + (na.toInt64))), .second, .unset, .unset, .unset, .unset, .unset] [])) (fun _ k => XS.lstore X36.here hx rfl (hb hby at_140) rfl (l' := #[.val (.int x0), .val (.int x1), .val (.int x2), .val (.int x3), .val (.int x4), .val (.int x5), .val (.int cnt), .val (.int na), .val (.int nb), .val (.int nc), .val (.int nd), .val (.ref b1), .val (.ref b2), .val (.ref b4), .val (.ref b7), .val (.ref b11), .val (.long ((0 : Int64) + (na.toInt64))), .second, .unset, .unset, .unset, .unset, .unset]) rfl k) ?_
              refine Done.st (B := T36.setTop (mkF m 144 #[.val (.int x0), .val (.int x1), .val (.int x2), .val (.int x3), .val (.int x4), .val (.int x5), .val (.int cnt), .val (.int na), .val (.int nb), .val (.int nc), .val (.int nd), .val (.ref b1), .val (.ref b2), .val (.ref b4), .val (.ref b7), .val (.ref b11), .val (.long ((0 : Int64) + (na.toInt64))), .second, .unset, .unset, .unset, .unset, .unset] [(.int cnt)])) (fun _ k => XS.iload X36.here hx rfl (hb hby at_142) rfl k) ?_
              refine Done.st (B := T36.setTop (mkF m 145 #[.val (.int x0), .val (.int x1), .val (.int x2), .val (.int x3), .val (.int x4), .val (.int x5), .val (.int cnt), .val (.int na), .val (.int nb), .val (.int nc), .val (.int nd), .val (.ref b1), .val (.ref b2), .val (.ref b4), .val (.ref b7), .val (.ref b11), .val (.long ((0 : Int64) + (na.toInt64))), .second, .unset, .unset, .unset, .unset, .unset] [(.int (2 : Int32)), (.int cnt)])) (fun _ k => XS.iconst X36.here hx rfl (hb hby at_144) k) ?_
              refine Done.st (B := T36.setTop (mkF m 164 #[.val (.int x0), .val (.int x1), .val (.int x2), .val (.int x3), .val (.int x4), .val (.int x5), .val (.int cnt), .val (.int na), .val (.int nb), .val (.int nc), .val (.int nd), .val (.ref b1), .val (.ref b2), .val (.ref b4), .val (.ref b7), .val (.ref b11), .val (.long ((0 : Int64) + (na.toInt64))), .second, .unset, .unset, .unset, .unset, .unset] [])) (fun _ k => XS.icmpYes X36.here hx rfl (pc0 := 145) (pc' := 164) rfl (hb hby at_145) rfl (tlt (by rw [hk]; decide : cnt < (2 : Int32))).1 (by decide) (by decide) k) ?_
              refine Done.st (B := T36.setTop (mkF m 166 #[.val (.int x0), .val (.int x1), .val (.int x2), .val (.int x3), .val (.int x4), .val (.int x5), .val (.int cnt), .val (.int na), .val (.int nb), .val (.int nc), .val (.int nd), .val (.ref b1), .val (.ref b2), .val (.ref b4), .val (.ref b7), .val (.ref b11), .val (.long ((0 : Int64) + (na.toInt64))), .second, .unset, .unset, .unset, .unset, .unset] [(.int cnt)])) (fun _ k => XS.iload X36.here hx rfl (hb hby at_164) rfl k) ?_
              refine Done.st (B := T36.setTop (mkF m 167 #[.val (.int x0), .val (.int x1), .val (.int x2), .val (.int x3), .val (.int x4), .val (.int x5), .val (.int cnt), .val (.int na), .val (.int nb), .val (.int nc), .val (.int nd), .val (.ref b1), .val (.ref b2), .val (.ref b4), .val (.ref b7), .val (.ref b11), .val (.long ((0 : Int64) + (na.toInt64))), .second, .unset, .unset, .unset, .unset, .unset] [(.int (3 : Int32)), (.int cnt)])) (fun _ k => XS.iconst X36.here hx rfl (hb hby at_166) k) ?_
              refine Done.st (B := T36.setTop (mkF m 186 #[.val (.int x0), .val (.int x1), .val (.int x2), .val (.int x3), .val (.int x4), .val (.int x5), .val (.int cnt), .val (.int na), .val (.int nb), .val (.int nc), .val (.int nd), .val (.ref b1), .val (.ref b2), .val (.ref b4), .val (.ref b7), .val (.ref b11), .val (.long ((0 : Int64) + (na.toInt64))), .second, .unset, .unset, .unset, .unset, .unset] [])) (fun _ k => XS.icmpYes X36.here hx rfl (pc0 := 167) (pc' := 186) rfl (hb hby at_167) rfl (tlt (by rw [hk]; decide : cnt < (3 : Int32))).1 (by decide) (by decide) k) ?_
              refine Done.st (B := T36.setTop (mkF m 188 #[.val (.int x0), .val (.int x1), .val (.int x2), .val (.int x3), .val (.int x4), .val (.int x5), .val (.int cnt), .val (.int na), .val (.int nb), .val (.int nc), .val (.int nd), .val (.ref b1), .val (.ref b2), .val (.ref b4), .val (.ref b7), .val (.ref b11), .val (.long ((0 : Int64) + (na.toInt64))), .second, .unset, .unset, .unset, .unset, .unset] [(.int cnt)])) (fun _ k => XS.iload X36.here hx rfl (hb hby at_186) rfl k) ?_
              refine Done.st (B := T36.setTop (mkF m 189 #[.val (.int x0), .val (.int x1), .val (.int x2), .val (.int x3), .val (.int x4), .val (.int x5), .val (.int cnt), .val (.int na), .val (.int nb), .val (.int nc), .val (.int nd), .val (.ref b1), .val (.ref b2), .val (.ref b4), .val (.ref b7), .val (.ref b11), .val (.long ((0 : Int64) + (na.toInt64))), .second, .unset, .unset, .unset, .unset, .unset] [(.int (4 : Int32)), (.int cnt)])) (fun _ k => XS.iconst X36.here hx rfl (hb hby at_188) k) ?_
              refine Done.st (B := T36.setTop (mkF m 208 #[.val (.int x0), .val (.int x1), .val (.int x2), .val (.int x3), .val (.int x4), .val (.int x5), .val (.int cnt), .val (.int na), .val (.int nb), .val (.int nc), .val (.int nd), .val (.ref b1), .val (.ref b2), .val (.ref b4), .val (.ref b7), .val (.ref b11), .val (.long ((0 : Int64) + (na.toInt64))), .second, .unset, .unset, .unset, .unset, .unset] [])) (fun _ k => XS.icmpYes X36.here hx rfl (pc0 := 189) (pc' := 208) rfl (hb hby at_189) rfl (tlt (by rw [hk]; decide : cnt < (4 : Int32))).1 (by decide) (by decide) k) ?_
              obtain ⟨T41, h41, X41, e41, E41, A41, D41, -, st41⟩ := newO X36 hx hZ hown (hw _ (List.mem_of_getElem? (i := 27) rfl)) (hw _ (List.mem_of_getElem? (i := 28) rfl)) (hw _ (List.mem_of_getElem? (i := 29) rfl)) rfl (g := (mkF m 208 #[.val (.int x0), .val (.int x1), .val (.int x2), .val (.int x3), .val (.int x4), .val (.int x5), .val (.int cnt), .val (.int na), .val (.int nb), .val (.int nc), .val (.int nd), .val (.ref b1), .val (.ref b2), .val (.ref b4), .val (.ref b7), .val (.ref b11), .val (.long ((0 : Int64) + (na.toInt64))), .second, .unset, .unset, .unset, .unset, .unset] [])) rfl (hb hby at_208) (by decide) (by decide)
              have c42 := (c34.keep K36 (ninS ne_w_D_b11 nin0))
              have c43 := (c37.keep K36 (ninS ne_b1_b11 nin0))
              have c44 := (c38.keep K36 (ninS ne_b2_b11 nin0))
              have c45 := (c39.keep K36 (ninS ne_b4_b11 nin0))
              have c46 := (c40.keep K36 (ninS ne_b7_b11 nin0))
              obtain ⟨b41, g41⟩ : ∃ z, z = T36.heap.size := ⟨_, rfl⟩
              rw [← g41] at A41 D41 st41
              have ne_w_D_b41 : w_D ≠ b41 := Nat.ne_of_lt (Nat.lt_of_lt_of_le c42.lt (Nat.le_of_eq g41.symm))
              have ne_b1_b41 : b1 ≠ b41 := Nat.ne_of_lt (Nat.lt_of_lt_of_le c43.lt (Nat.le_of_eq g41.symm))
              have ne_b2_b41 : b2 ≠ b41 := Nat.ne_of_lt (Nat.lt_of_lt_of_le c44.lt (Nat.le_of_eq g41.symm))
              have ne_b4_b41 : b4 ≠ b41 := Nat.ne_of_lt (Nat.lt_of_lt_of_le c45.lt (Nat.le_of_eq g41.symm))
              have ne_b7_b41 : b7 ≠ b41 := Nat.ne_of_lt (Nat.lt_of_lt_of_le c46.lt (Nat.le_of_eq g41.symm))
              have ne_b11_b41 : b11 ≠ b41 := Nat.ne_of_lt (Nat.lt_of_lt_of_le f36_2.lt (Nat.le_of_eq g41.symm))
              have ne_g_b41 : g ≠ b41 := Nat.ne_of_lt (Nat.lt_of_lt_of_le f36_6.lt (Nat.le_of_eq g41.symm))
              have ge_b41 : n0 ≤ b41 := Nat.le_trans Z36 (Nat.le_of_eq g41.symm)
              have Z41 : n0 ≤ h41.size := Nat.le_trans Z36 E41.1
              have F41_tests : Fld Z h41 b41 "com/example/percurso/percurso/suite/Suite" "tests" "[[I" .null := D41 (Or.inr (hw _ (List.mem_of_getElem? (i := 48) rfl))) (ty := (.array (.array .int))) (by decide)
              refine Done.st (B := T41.setTop (mkF m 211 #[.val (.int x0), .val (.int x1), .val (.int x2), .val (.int x3), .val (.int x4), .val (.int x5), .val (.int cnt), .val (.int na), .val (.int nb), .val (.int nc), .val (.int nd), .val (.ref b1), .val (.ref b2), .val (.ref b4), .val (.ref b7), .val (.ref b11), .val (.long ((0 : Int64) + (na.toInt64))), .second, .unset, .unset, .unset, .unset, .unset] [(.ref b41)])) (fun _ k => st41 _ k) ?_
              refine Done.st (B := T41.setTop (mkF m 212 #[.val (.int x0), .val (.int x1), .val (.int x2), .val (.int x3), .val (.int x4), .val (.int x5), .val (.int cnt), .val (.int na), .val (.int nb), .val (.int nc), .val (.int nd), .val (.ref b1), .val (.ref b2), .val (.ref b4), .val (.ref b7), .val (.ref b11), .val (.long ((0 : Int64) + (na.toInt64))), .second, .unset, .unset, .unset, .unset, .unset] [(.ref b41), (.ref b41)])) (fun _ k => XS.dup X41.here hx rfl (hb hby at_211) rfl rfl k) ?_
              refine Done.st (B := T41.setTop (mkF m 214 #[.val (.int x0), .val (.int x1), .val (.int x2), .val (.int x3), .val (.int x4), .val (.int x5), .val (.int cnt), .val (.int na), .val (.int nb), .val (.int nc), .val (.int nd), .val (.ref b1), .val (.ref b2), .val (.ref b4), .val (.ref b7), .val (.ref b11), .val (.long ((0 : Int64) + (na.toInt64))), .second, .unset, .unset, .unset, .unset, .unset] [(.ref b11), (.ref b41), (.ref b41)])) (fun _ k => XS.aload X41.here hx rfl (hb hby at_212) rfl rfl k) ?_
              have c47 := (Exa.ext E41 f36_2)
              have c48 := (Fld.ext E41 f36_3)
              have c49 := (Fld.ext E41 f36_4)
              have c50 := (Fld.ext E41 f36_5)
              have c51 := (f36_6.ext E41)
              have c52 := (c43.ext E41)
              obtain ⟨_, _, ⟨T53, L53, k53, n53⟩, -, X53, ⟨Lc53, hQ53, l53, y53, z53⟩, st53⟩ := X41.specialBack hx (y := (⟨"com/example/percurso/percurso/suite/Suite", "<init>", "(Ljava/util/List;)V"⟩ : MethodName)) rfl hown (mvT hZ (hw _ (List.mem_of_getElem? (i := 30) rfl))) (mvT hZ (hw _ (List.mem_of_getElem? (i := 31) rfl))) (mvT hZ (hw _ (List.mem_of_getElem? (i := 32) rfl))) (by decide) (backOf (W := 1) (rmSI_1 l Z a0 hw [] b41 b11 ((0 : Int32) + (1 : Int32)) g kg b1 na h41 n0 Z41 F41_tests A41 ge_b41 c47 c48 c49 c50 c51 c52 hna (Ne.symm ne_b11_b41) (Ne.symm ne_g_b41) (Ne.symm ne_b1_b41)) hZ (hw _ (List.mem_of_getElem? (i := 32) rfl)) (hw _ (List.mem_of_getElem? (i := 29) rfl)) (by decide) (by decide)) (g := (mkF m 214 #[.val (.int x0), .val (.int x1), .val (.int x2), .val (.int x3), .val (.int x4), .val (.int x5), .val (.int cnt), .val (.int na), .val (.int nb), .val (.int nc), .val (.int nd), .val (.ref b1), .val (.ref b2), .val (.ref b4), .val (.ref b7), .val (.ref b11), .val (.long ((0 : Int64) + (na.toInt64))), .second, .unset, .unset, .unset, .unset, .unset] [(.ref b11), (.ref b41), (.ref b41)])) rfl (by rw [hml]; rfl) (Steps.refl _) (a := b41) (argsL := [(.ref b11)]) (rest := [(.ref b41)]) (lenOf pd_8 rfl) rfl (by show 2 * 0 + _ ≤ _; exact Nat.le_of_eq rfl) (hb hby at_214) (fun _ _ => ⟨rfl, e41, (by decide : 7 + 2 ≤ _), (by decide : 42 + 8 ≤ _)⟩)
              dsimp only [Pt.U, Pt.locs, Pt.cells, Pt.slots] at X53 l53 y53 z53 st53 hQ53
              subst l53 y53 z53
              have c54 := (c42.ext E41)
              have c55 := (c44.ext E41)
              have c56 := (c45.ext E41)
              have c57 := (c46.ext E41)
              obtain ⟨u, ku, ca0, rfl, N53q, K53, f53_0, f53_1, f53_2, f53_3, f53_4⟩ := hQ53
              have N53 := Fr.app N36 N53q
              have ne_w_D_u : w_D ≠ u := Nat.ne_of_lt (Nat.lt_of_lt_of_le c54.lt f53_0)
              have ne_b1_u : b1 ≠ u := Nat.ne_of_lt (Nat.lt_of_lt_of_le c52.lt f53_0)
              have ne_b2_u : b2 ≠ u := Nat.ne_of_lt (Nat.lt_of_lt_of_le c55.lt f53_0)
              have ne_b4_u : b4 ≠ u := Nat.ne_of_lt (Nat.lt_of_lt_of_le c56.lt f53_0)
              have ne_b7_u : b7 ≠ u := Nat.ne_of_lt (Nat.lt_of_lt_of_le c57.lt f53_0)
              have ne_b11_u : b11 ≠ u := Nat.ne_of_lt (Nat.lt_of_lt_of_le c47.lt f53_0)
              have ne_g_u : g ≠ u := Nat.ne_of_lt (Nat.lt_of_lt_of_le c51.lt f53_0)
              have ne_b41_u : b41 ≠ u := Nat.ne_of_lt (Nat.lt_of_lt_of_le A41.lt f53_0)
              have ge_u : n0 ≤ u := Nat.le_trans Z41 f53_0
              have Z53 : n0 ≤ T53.heap.size := Nat.le_trans Z41 K53.1
              refine Done.st (B := T53.setTop (mkF m 217 #[.val (.int x0), .val (.int x1), .val (.int x2), .val (.int x3), .val (.int x4), .val (.int x5), .val (.int cnt), .val (.int na), .val (.int nb), .val (.int nc), .val (.int nd), .val (.ref b1), .val (.ref b2), .val (.ref b4), .val (.ref b7), .val (.ref b11), .val (.long ((0 : Int64) + (na.toInt64))), .second, .unset, .unset, .unset, .unset, .unset] [(.ref b41)])) (fun _ k => st53.trans k) ?_
              refine Done.st (B := T53.setTop (mkF m 219 #[.val (.int x0), .val (.int x1), .val (.int x2), .val (.int x3), .val (.int x4), .val (.int x5), .val (.int cnt), .val (.int na), .val (.int nb), .val (.int nc), .val (.int nd), .val (.ref b1), .val (.ref b2), .val (.ref b4), .val (.ref b7), .val (.ref b11), .val (.long ((0 : Int64) + (na.toInt64))), .second, .val (.ref b41), .unset, .unset, .unset, .unset] [])) (fun _ k => XS.astore X53.here hx rfl (hb hby at_217) rfl rfl (l' := #[.val (.int x0), .val (.int x1), .val (.int x2), .val (.int x3), .val (.int x4), .val (.int x5), .val (.int cnt), .val (.int na), .val (.int nb), .val (.int nc), .val (.int nd), .val (.ref b1), .val (.ref b2), .val (.ref b4), .val (.ref b7), .val (.ref b11), .val (.long ((0 : Int64) + (na.toInt64))), .second, .val (.ref b41), .unset, .unset, .unset, .unset]) rfl k) ?_
              refine Done.st (B := T53.setTop (mkF m 221 #[.val (.int x0), .val (.int x1), .val (.int x2), .val (.int x3), .val (.int x4), .val (.int x5), .val (.int cnt), .val (.int na), .val (.int nb), .val (.int nc), .val (.int nd), .val (.ref b1), .val (.ref b2), .val (.ref b4), .val (.ref b7), .val (.ref b11), .val (.long ((0 : Int64) + (na.toInt64))), .second, .val (.ref b41), .unset, .unset, .unset, .unset] [(.ref b41)])) (fun _ k => XS.aload X53.here hx rfl (hb hby at_219) rfl rfl k) ?_
              obtain ⟨cq58, kq58, q58a, q58b, q58c⟩ := isOf hZ rfl f53_1
              obtain ⟨_, _, ⟨T58, L58, k58, n58⟩, -, X58, ⟨Lc58, hQ58, l58, y58, z58⟩, st58⟩ := X53.virtualBack hx (y := (⟨"com/example/percurso/percurso/suite/Suite", "inputCount", "()J"⟩ : MethodName)) (z := (⟨"com/example/percurso/percurso/suite/Suite", "inputCount", "()J"⟩ : MethodName)) hown (mvT hZ (hw _ (List.mem_of_getElem? (i := 49) rfl))) (mvT hZ (hw _ (List.mem_of_getElem? (i := 50) rfl))) (notFace_of_selects (args := #[]) (mvT hZ (hw _ (List.mem_of_getElem? (i := 52) rfl)))) (mvT hZ (hw _ (List.mem_of_getElem? (i := 52) rfl))) (mvT hZ (hw _ (List.mem_of_getElem? (i := 51) rfl))) (by decide) (backOf (W := 0) (rmIC_1 l Z a0 hw [] b41 u ku ca0 na T53.heap n0 Z53 f53_2 f53_3 f53_4) hZ (hw _ (List.mem_of_getElem? (i := 53) rfl)) (hw _ (List.mem_of_getElem? (i := 29) rfl)) (by decide) (by decide)) q58a q58c (g := (mkF m 221 #[.val (.int x0), .val (.int x1), .val (.int x2), .val (.int x3), .val (.int x4), .val (.int x5), .val (.int cnt), .val (.int na), .val (.int nb), .val (.int nc), .val (.int nd), .val (.ref b1), .val (.ref b2), .val (.ref b4), .val (.ref b7), .val (.ref b11), .val (.long ((0 : Int64) + (na.toInt64))), .second, .val (.ref b41), .unset, .unset, .unset, .unset] [(.ref b41)])) rfl (by rw [hml]; rfl) (Steps.refl _) (argsL := []) (rest := []) (lenOf pd_9 rfl) rfl (by show 2 * 0 + _ ≤ _; exact Nat.le_of_eq rfl) (hb hby at_221) (fun _ _ => ⟨rfl, rfl, (by decide : 9 + 0 ≤ _), (by decide : 50 + 0 ≤ _)⟩)
              dsimp only [Pt.U, Pt.locs, Pt.cells, Pt.slots] at X58 l58 y58 z58 st58 hQ58
              subst l58 y58 z58
              obtain ⟨rfl, N58q, e58⟩ := hQ58
              have N58 := Fr.app N53 N58q
              refine Done.st (B := T58.setTop (mkF m 224 #[.val (.int x0), .val (.int x1), .val (.int x2), .val (.int x3), .val (.int x4), .val (.int x5), .val (.int cnt), .val (.int na), .val (.int nb), .val (.int nc), .val (.int nd), .val (.ref b1), .val (.ref b2), .val (.ref b4), .val (.ref b7), .val (.ref b11), .val (.long ((0 : Int64) + (na.toInt64))), .second, .val (.ref b41), .unset, .unset, .unset, .unset] [(.long ((0 : Int64) + (na.toInt64)))])) (fun _ k => st58.trans k) ?_
              refine Done.st (B := T58.setTop (mkF m 226 #[.val (.int x0), .val (.int x1), .val (.int x2), .val (.int x3), .val (.int x4), .val (.int x5), .val (.int cnt), .val (.int na), .val (.int nb), .val (.int nc), .val (.int nd), .val (.ref b1), .val (.ref b2), .val (.ref b4), .val (.ref b7), .val (.ref b11), .val (.long ((0 : Int64) + (na.toInt64))), .second, .val (.ref b41), .val (.long ((0 : Int64) + (na.toInt64))), .second, .unset, .unset] [])) (fun _ k => XS.lstore X58.here hx rfl (hb hby at_224) rfl (l' := #[.val (.int x0), .val (.int x1), .val (.int x2), .val (.int x3), .val (.int x4), .val (.int x5), .val (.int cnt), .val (.int na), .val (.int nb), .val (.int nc), .val (.int nd), .val (.ref b1), .val (.ref b2), .val (.ref b4), .val (.ref b7), .val (.ref b11), .val (.long ((0 : Int64) + (na.toInt64))), .second, .val (.ref b41), .val (.long ((0 : Int64) + (na.toInt64))), .second, .unset, .unset]) rfl k) ?_
              refine Done.st (B := T58.setTop (mkF m 228 #[.val (.int x0), .val (.int x1), .val (.int x2), .val (.int x3), .val (.int x4), .val (.int x5), .val (.int cnt), .val (.int na), .val (.int nb), .val (.int nc), .val (.int nd), .val (.ref b1), .val (.ref b2), .val (.ref b4), .val (.ref b7), .val (.ref b11), .val (.long ((0 : Int64) + (na.toInt64))), .second, .val (.ref b41), .val (.long ((0 : Int64) + (na.toInt64))), .second, .unset, .unset] [(.ref b41)])) (fun _ k => XS.aload X58.here hx rfl (hb hby at_226) rfl rfl k) ?_
              obtain ⟨cq59, kq59, q59a, q59b, q59c⟩ := isOf hZ e58 f53_1
              obtain ⟨_, _, ⟨T59, L59, k59, n59⟩, -, X59, ⟨Lc59, hQ59, l59, y59, z59⟩, st59⟩ := X58.virtualBack hx (y := (⟨"com/example/percurso/percurso/suite/Suite", "inputCount", "()J"⟩ : MethodName)) (z := (⟨"com/example/percurso/percurso/suite/Suite", "inputCount", "()J"⟩ : MethodName)) hown (mvT hZ (hw _ (List.mem_of_getElem? (i := 49) rfl))) (mvT hZ (hw _ (List.mem_of_getElem? (i := 50) rfl))) (notFace_of_selects (args := #[]) (mvT hZ (hw _ (List.mem_of_getElem? (i := 52) rfl)))) (mvT hZ (hw _ (List.mem_of_getElem? (i := 52) rfl))) (mvT hZ (hw _ (List.mem_of_getElem? (i := 51) rfl))) (by decide) (backOf (W := 0) (rmIC_1 l Z a0 hw [] b41 u ku ca0 na T53.heap n0 Z53 f53_2 f53_3 f53_4) hZ (hw _ (List.mem_of_getElem? (i := 53) rfl)) (hw _ (List.mem_of_getElem? (i := 29) rfl)) (by decide) (by decide)) q59a q59c (g := (mkF m 228 #[.val (.int x0), .val (.int x1), .val (.int x2), .val (.int x3), .val (.int x4), .val (.int x5), .val (.int cnt), .val (.int na), .val (.int nb), .val (.int nc), .val (.int nd), .val (.ref b1), .val (.ref b2), .val (.ref b4), .val (.ref b7), .val (.ref b11), .val (.long ((0 : Int64) + (na.toInt64))), .second, .val (.ref b41), .val (.long ((0 : Int64) + (na.toInt64))), .second, .unset, .unset] [(.ref b41)])) rfl (by rw [hml]; rfl) (Steps.refl _) (argsL := []) (rest := []) (lenOf pd_9 rfl) rfl (by show 2 * 0 + _ ≤ _; exact Nat.le_of_eq rfl) (hb hby at_228) (fun _ _ => ⟨rfl, e58, (by decide : 9 + 0 ≤ _), (by decide : 50 + 0 ≤ _)⟩)
              dsimp only [Pt.U, Pt.locs, Pt.cells, Pt.slots] at X59 l59 y59 z59 st59 hQ59
              subst l59 y59 z59
              obtain ⟨rfl, N59q, e59⟩ := hQ59
              have N59 := Fr.app N58 N59q
              refine Done.st (B := T59.setTop (mkF m 231 #[.val (.int x0), .val (.int x1), .val (.int x2), .val (.int x3), .val (.int x4), .val (.int x5), .val (.int cnt), .val (.int na), .val (.int nb), .val (.int nc), .val (.int nd), .val (.ref b1), .val (.ref b2), .val (.ref b4), .val (.ref b7), .val (.ref b11), .val (.long ((0 : Int64) + (na.toInt64))), .second, .val (.ref b41), .val (.long ((0 : Int64) + (na.toInt64))), .second, .unset, .unset] [(.long ((0 : Int64) + (na.toInt64)))])) (fun _ k => st59.trans k) ?_
              refine Done.st (B := T59.setTop (mkF m 233 #[.val (.int x0), .val (.int x1), .val (.int x2), .val (.int x3), .val (.int x4), .val (.int x5), .val (.int cnt), .val (.int na), .val (.int nb), .val (.int nc), .val (.int nd), .val (.ref b1), .val (.ref b2), .val (.ref b4), .val (.ref b7), .val (.ref b11), .val (.long ((0 : Int64) + (na.toInt64))), .second, .val (.ref b41), .val (.long ((0 : Int64) + (na.toInt64))), .second, .val (.long ((0 : Int64) + (na.toInt64))), .second] [])) (fun _ k => XS.lstore X59.here hx rfl (hb hby at_231) rfl (l' := #[.val (.int x0), .val (.int x1), .val (.int x2), .val (.int x3), .val (.int x4), .val (.int x5), .val (.int cnt), .val (.int na), .val (.int nb), .val (.int nc), .val (.int nd), .val (.ref b1), .val (.ref b2), .val (.ref b4), .val (.ref b7), .val (.ref b11), .val (.long ((0 : Int64) + (na.toInt64))), .second, .val (.ref b41), .val (.long ((0 : Int64) + (na.toInt64))), .second, .val (.long ((0 : Int64) + (na.toInt64))), .second]) rfl k) ?_
              refine Done.st (B := T59.setTop (mkF m 235 #[.val (.int x0), .val (.int x1), .val (.int x2), .val (.int x3), .val (.int x4), .val (.int x5), .val (.int cnt), .val (.int na), .val (.int nb), .val (.int nc), .val (.int nd), .val (.ref b1), .val (.ref b2), .val (.ref b4), .val (.ref b7), .val (.ref b11), .val (.long ((0 : Int64) + (na.toInt64))), .second, .val (.ref b41), .val (.long ((0 : Int64) + (na.toInt64))), .second, .val (.long ((0 : Int64) + (na.toInt64))), .second] [(.long ((0 : Int64) + (na.toInt64)))])) (fun _ k => XS.lload X59.here hx rfl (hb hby at_233) rfl k) ?_
              refine Done.st (B := T59.setTop (mkF m 237 #[.val (.int x0), .val (.int x1), .val (.int x2), .val (.int x3), .val (.int x4), .val (.int x5), .val (.int cnt), .val (.int na), .val (.int nb), .val (.int nc), .val (.int nd), .val (.ref b1), .val (.ref b2), .val (.ref b4), .val (.ref b7), .val (.ref b11), .val (.long ((0 : Int64) + (na.toInt64))), .second, .val (.ref b41), .val (.long ((0 : Int64) + (na.toInt64))), .second, .val (.long ((0 : Int64) + (na.toInt64))), .second] [(.long ((0 : Int64) + (na.toInt64))), (.long ((0 : Int64) + (na.toInt64)))])) (fun _ k => XS.lload X59.here hx rfl (hb hby at_235) rfl k) ?_
              refine Done.st (B := T59.setTop (mkF m 238 #[.val (.int x0), .val (.int x1), .val (.int x2), .val (.int x3), .val (.int x4), .val (.int x5), .val (.int cnt), .val (.int na), .val (.int nb), .val (.int nc), .val (.int nd), .val (.ref b1), .val (.ref b2), .val (.ref b4), .val (.ref b7), .val (.ref b11), .val (.long ((0 : Int64) + (na.toInt64))), .second, .val (.ref b41), .val (.long ((0 : Int64) + (na.toInt64))), .second, .val (.long ((0 : Int64) + (na.toInt64))), .second] [(.int (lcmpW ((0 : Int64) + (na.toInt64)) ((0 : Int64) + (na.toInt64))))])) (fun _ k => XS.lcmp X59.here hx rfl (hb hby at_237) rfl k) ?_
              refine Done.st (B := T59.setTop (mkF m 241 #[.val (.int x0), .val (.int x1), .val (.int x2), .val (.int x3), .val (.int x4), .val (.int x5), .val (.int cnt), .val (.int na), .val (.int nb), .val (.int nc), .val (.int nd), .val (.ref b1), .val (.ref b2), .val (.ref b4), .val (.ref b7), .val (.ref b11), .val (.long ((0 : Int64) + (na.toInt64))), .second, .val (.ref b41), .val (.long ((0 : Int64) + (na.toInt64))), .second, .val (.long ((0 : Int64) + (na.toInt64))), .second] [])) (fun _ k => XS.ifNo X59.here hx rfl (hb hby at_238) rfl ((if0 _ _).trans (teq ((lw_eq _ _).mpr (rfl : ((0 : Int64) + (na.toInt64)) = ((0 : Int64) + (na.toInt64))))).2) k) ?_
              refine Done.st (B := T59.setTop (mkF m 243 #[.val (.int x0), .val (.int x1), .val (.int x2), .val (.int x3), .val (.int x4), .val (.int x5), .val (.int cnt), .val (.int na), .val (.int nb), .val (.int nc), .val (.int nd), .val (.ref b1), .val (.ref b2), .val (.ref b4), .val (.ref b7), .val (.ref b11), .val (.long ((0 : Int64) + (na.toInt64))), .second, .val (.ref b41), .val (.long ((0 : Int64) + (na.toInt64))), .second, .val (.long ((0 : Int64) + (na.toInt64))), .second] [(.long ((0 : Int64) + (na.toInt64)))])) (fun _ k => XS.lload X59.here hx rfl (hb hby at_241) rfl k) ?_
              refine Done.st (B := T59.setTop (mkF m 245 #[.val (.int x0), .val (.int x1), .val (.int x2), .val (.int x3), .val (.int x4), .val (.int x5), .val (.int cnt), .val (.int na), .val (.int nb), .val (.int nc), .val (.int nd), .val (.ref b1), .val (.ref b2), .val (.ref b4), .val (.ref b7), .val (.ref b11), .val (.long ((0 : Int64) + (na.toInt64))), .second, .val (.ref b41), .val (.long ((0 : Int64) + (na.toInt64))), .second, .val (.long ((0 : Int64) + (na.toInt64))), .second] [(.long ((0 : Int64) + (na.toInt64))), (.long ((0 : Int64) + (na.toInt64)))])) (fun _ k => XS.lload X59.here hx rfl (hb hby at_243) rfl k) ?_
              refine Done.st (B := T59.setTop (mkF m 246 #[.val (.int x0), .val (.int x1), .val (.int x2), .val (.int x3), .val (.int x4), .val (.int x5), .val (.int cnt), .val (.int na), .val (.int nb), .val (.int nc), .val (.int nd), .val (.ref b1), .val (.ref b2), .val (.ref b4), .val (.ref b7), .val (.ref b11), .val (.long ((0 : Int64) + (na.toInt64))), .second, .val (.ref b41), .val (.long ((0 : Int64) + (na.toInt64))), .second, .val (.long ((0 : Int64) + (na.toInt64))), .second] [(.int (lcmpW ((0 : Int64) + (na.toInt64)) ((0 : Int64) + (na.toInt64))))])) (fun _ k => XS.lcmp X59.here hx rfl (hb hby at_245) rfl k) ?_
              refine Done.st (B := T59.setTop (mkF m 249 #[.val (.int x0), .val (.int x1), .val (.int x2), .val (.int x3), .val (.int x4), .val (.int x5), .val (.int cnt), .val (.int na), .val (.int nb), .val (.int nc), .val (.int nd), .val (.ref b1), .val (.ref b2), .val (.ref b4), .val (.ref b7), .val (.ref b11), .val (.long ((0 : Int64) + (na.toInt64))), .second, .val (.ref b41), .val (.long ((0 : Int64) + (na.toInt64))), .second, .val (.long ((0 : Int64) + (na.toInt64))), .second] [])) (fun _ k => XS.ifNo X59.here hx rfl (hb hby at_246) rfl ((if0 _ _).trans (teq ((lw_eq _ _).mpr (rfl : ((0 : Int64) + (na.toInt64)) = ((0 : Int64) + (na.toInt64))))).2) k) ?_
              refine Done.st (B := T59.setTop (mkF m 250 #[.val (.int x0), .val (.int x1), .val (.int x2), .val (.int x3), .val (.int x4), .val (.int x5), .val (.int cnt), .val (.int na), .val (.int nb), .val (.int nc), .val (.int nd), .val (.ref b1), .val (.ref b2), .val (.ref b4), .val (.ref b7), .val (.ref b11), .val (.long ((0 : Int64) + (na.toInt64))), .second, .val (.ref b41), .val (.long ((0 : Int64) + (na.toInt64))), .second, .val (.long ((0 : Int64) + (na.toInt64))), .second] [(.int (1 : Int32))])) (fun _ k => XS.iconst X59.here hx rfl (hb hby at_249) k) ?_
              refine Done.st (B := T59.setTop (mkF m 254 #[.val (.int x0), .val (.int x1), .val (.int x2), .val (.int x3), .val (.int x4), .val (.int x5), .val (.int cnt), .val (.int na), .val (.int nb), .val (.int nc), .val (.int nd), .val (.ref b1), .val (.ref b2), .val (.ref b4), .val (.ref b7), .val (.ref b11), .val (.long ((0 : Int64) + (na.toInt64))), .second, .val (.ref b41), .val (.long ((0 : Int64) + (na.toInt64))), .second, .val (.long ((0 : Int64) + (na.toInt64))), .second] [(.int (1 : Int32))])) (fun _ k => XS.goto X59.here hx rfl (pc0 := 250) (pc' := 254) rfl (hb hby at_250) (by decide) (by decide) k) ?_
              obtain ⟨fs, hr, hrun, hended, hW, hsame⟩ := X59.leave (v := some (.int (1 : Int32))) (hlocks := hlk) (fun h => by rw [Bd.returns] at h; cases h)
              refine Done.fin (retN X59 hx (t := .boolean) Bd.returns (by simp) (hb hby at_254) hr) hrun hended ⟨_, _, rfl, ?_, ⟨_, rfl⟩, hW, hsame.mono (by decide) (by decide)⟩
              show Qrm0 Z x0 x1 x2 x3 x4 x5 w_D kw_D h0 n0 _ T59.heap _
              rw [e59]
              exact ⟨rfl, N59⟩
            · refine Done.st (B := T13.setTop (mkF m 122 #[.val (.int x0), .val (.int x1), .val (.int x2), .val (.int x3), .val (.int x4), .val (.int x5), .val (.int cnt), .val (.int na), .val (.int nb), .val (.int nc), .val (.int nd), .val (.ref b1), .val (.ref b2), .val (.ref b4), .val (.ref b7), .val (.ref b11), .val (.long (0 : Int64)), .second, .unset, .unset, .unset, .unset, .unset] [(.int cnt)])) (fun _ k => XS.iload X13.here hx rfl (hb hby at_120) rfl k) ?_
              refine Done.st (B := T13.setTop (mkF m 123 #[.val (.int x0), .val (.int x1), .val (.int x2), .val (.int x3), .val (.int x4), .val (.int x5), .val (.int cnt), .val (.int na), .val (.int nb), .val (.int nc), .val (.int nd), .val (.ref b1), .val (.ref b2), .val (.ref b4), .val (.ref b7), .val (.ref b11), .val (.long (0 : Int64)), .second, .unset, .unset, .unset, .unset, .unset] [(.int (1 : Int32)), (.int cnt)])) (fun _ k => XS.iconst X13.here hx rfl (hb hby at_122) k) ?_
              refine Done.st (B := T13.setTop (mkF m 126 #[.val (.int x0), .val (.int x1), .val (.int x2), .val (.int x3), .val (.int x4), .val (.int x5), .val (.int cnt), .val (.int na), .val (.int nb), .val (.int nc), .val (.int nd), .val (.ref b1), .val (.ref b2), .val (.ref b4), .val (.ref b7), .val (.ref b11), .val (.long (0 : Int64)), .second, .unset, .unset, .unset, .unset, .unset] [])) (fun _ k => XS.icmpNo X13.here hx rfl (hb hby at_123) rfl (flt (by rw [hk]; decide : ¬ (cnt < (1 : Int32)))).1 k) ?_
              refine Done.st (B := T13.setTop (mkF m 128 #[.val (.int x0), .val (.int x1), .val (.int x2), .val (.int x3), .val (.int x4), .val (.int x5), .val (.int cnt), .val (.int na), .val (.int nb), .val (.int nc), .val (.int nd), .val (.ref b1), .val (.ref b2), .val (.ref b4), .val (.ref b7), .val (.ref b11), .val (.long (0 : Int64)), .second, .unset, .unset, .unset, .unset, .unset] [(.ref b11)])) (fun _ k => XS.aload X13.here hx rfl (hb hby at_126) rfl rfl k) ?_
              refine Done.st (B := T13.setTop (mkF m 130 #[.val (.int x0), .val (.int x1), .val (.int x2), .val (.int x3), .val (.int x4), .val (.int x5), .val (.int cnt), .val (.int na), .val (.int nb), .val (.int nc), .val (.int nd), .val (.ref b1), .val (.ref b2), .val (.ref b4), .val (.ref b7), .val (.ref b11), .val (.long (0 : Int64)), .second, .unset, .unset, .unset, .unset, .unset] [(.ref b1), (.ref b11)])) (fun _ k => XS.aload X13.here hx rfl (hb hby at_128) rfl rfl k) ?_
              have c61 := (own_sta_keep c12 K13 (allS (own_ns_exa A11) all0))
              have c62 := ((fj108_1.ext E11).keep K13 (ninS ne_w_D_b11 nin0))
              have c63 := ((Exa.ext E11 fj108_3).keep K13)
              obtain ⟨cq64, kq64, q64a, q64b, q64c⟩ := isOf hZ rfl f13_0
              obtain ⟨_, _, ⟨T64, L64, k64, n64⟩, -, X64, ⟨Lc64, hQ64, l64, y64, z64⟩, st64⟩ := X13.virtualBack hx (y := (⟨"java/util/ArrayList", "add", "(Ljava/lang/Object;)Z"⟩ : MethodName)) (z := (⟨"java/util/ArrayList", "add", "(Ljava/lang/Object;)Z"⟩ : MethodName)) hown (mvT hZ (hw _ (List.mem_of_getElem? (i := 54) rfl))) (mvT hZ (hw _ (List.mem_of_getElem? (i := 55) rfl))) (notFace_of_selects (args := #[]) (mvT hZ (hw _ (List.mem_of_getElem? (i := 57) rfl)))) (mvT hZ (hw _ (List.mem_of_getElem? (i := 57) rfl))) (mvT hZ (hw _ (List.mem_of_getElem? (i := 56) rfl))) (by decide) (backOf (W := 0) (rmA1_0 l Z a0 hw [] b11 b1 (0 : Int32) w_D kw_D T13.heap n0 Z13 f13_0 f13_1 f13_2 f13_3 ge_b11 c61 c62 (Ne.symm ne_w_D_b11) c63) hZ (hw _ (List.mem_of_getElem? (i := 58) rfl)) (hw _ (List.mem_of_getElem? (i := 3) rfl)) (by decide) (by decide)) q64a q64c (g := (mkF m 130 #[.val (.int x0), .val (.int x1), .val (.int x2), .val (.int x3), .val (.int x4), .val (.int x5), .val (.int cnt), .val (.int na), .val (.int nb), .val (.int nc), .val (.int nd), .val (.ref b1), .val (.ref b2), .val (.ref b4), .val (.ref b7), .val (.ref b11), .val (.long (0 : Int64)), .second, .unset, .unset, .unset, .unset, .unset] [(.ref b1), (.ref b11)])) rfl (by rw [hml]; rfl) (Steps.refl _) (argsL := [(.ref b1)]) (rest := []) (lenOf pd_10 rfl) rfl (by show 2 * 0 + _ ≤ _; exact Nat.le_of_eq rfl) (hb hby at_130) (fun _ _ => ⟨rfl, rfl, (by decide : 5 + 1 ≤ _), (by decide : 31 + 10 ≤ _)⟩)
              dsimp only [Pt.U, Pt.locs, Pt.cells, Pt.slots] at X64 l64 y64 z64 st64 hQ64
              subst l64 y64 z64
              have c65 := ((fj108_2.ext E11).keep K13 (ninS ne_b1_b11 nin0))
              have c66 := ((fj108_4.ext E11).keep K13 (ninS ne_b2_b11 nin0))
              have c67 := ((fj108_6.ext E11).keep K13 (ninS ne_b4_b11 nin0))
              have c68 := ((fj108_8.ext E11).keep K13 (ninS ne_b7_b11 nin0))
              obtain ⟨g, kg, rfl, N64q, K64, f64_0, O_g, f64_2, f64_3, f64_4, f64_5, f64_6⟩ := hQ64
              have N64 := Fr.app N13 N64q
              have ne_w_D_g : w_D ≠ g := Nat.ne_of_lt (Nat.lt_of_lt_of_le c62.lt f64_0)
              have ne_b1_g : b1 ≠ g := Nat.ne_of_lt (Nat.lt_of_lt_of_le c65.lt f64_0)
              have ne_b2_g : b2 ≠ g := Nat.ne_of_lt (Nat.lt_of_lt_of_le c66.lt f64_0)
              have ne_b4_g : b4 ≠ g := Nat.ne_of_lt (Nat.lt_of_lt_of_le c67.lt f64_0)
              have ne_b7_g : b7 ≠ g := Nat.ne_of_lt (Nat.lt_of_lt_of_le c68.lt f64_0)
              have ne_b11_g : b11 ≠ g := Nat.ne_of_lt (Nat.lt_of_lt_of_le f13_0.lt f64_0)
              have ge_g : n0 ≤ g := Nat.le_trans Z13 f64_0
              have Z64 : n0 ≤ T64.heap.size := Nat.le_trans Z13 K64.1
              refine Done.st (B := T64.setTop (mkF m 133 #[.val (.int x0), .val (.int x1), .val (.int x2), .val (.int x3), .val (.int x4), .val (.int x5), .val (.int cnt), .val (.int na), .val (.int nb), .val (.int nc), .val (.int nd), .val (.ref b1), .val (.ref b2), .val (.ref b4), .val (.ref b7), .val (.ref b11), .val (.long (0 : Int64)), .second, .unset, .unset, .unset, .unset, .unset] [(.int (1 : Int32))])) (fun _ k => st64.trans k) ?_
              refine Done.st (B := T64.setTop (mkF m 134 #[.val (.int x0), .val (.int x1), .val (.int x2), .val (.int x3), .val (.int x4), .val (.int x5), .val (.int cnt), .val (.int na), .val (.int nb), .val (.int nc), .val (.int nd), .val (.ref b1), .val (.ref b2), .val (.ref b4), .val (.ref b7), .val (.ref b11), .val (.long (0 : Int64)), .second, .unset, .unset, .unset, .unset, .unset] [])) (fun _ k => XS.pop X64.here hx rfl (hb hby at_133) rfl rfl k) ?_
              refine Done.st (B := T64.setTop (mkF m 136 #[.val (.int x0), .val (.int x1), .val (.int x2), .val (.int x3), .val (.int x4), .val (.int x5), .val (.int cnt), .val (.int na), .val (.int nb), .val (.int nc), .val (.int nd), .val (.ref b1), .val (.ref b2), .val (.ref b4), .val (.ref b7), .val (.ref b11), .val (.long (0 : Int64)), .second, .unset, .unset, .unset, .unset, .unset] [(.long (0 : Int64))])) (fun _ k => XS.lload X64.here hx rfl (hb hby at_134) rfl k) ?_
              refine Done.st (B := T64.setTop (mkF m 138 #[.val (.int x0), .val (.int x1), .val (.int x2), .val (.int x3), .val (.int x4), .val (.int x5), .val (.int cnt), .val (.int na), .val (.int nb), .val (.int nc), .val (.int nd), .val (.ref b1), .val (.ref b2), .val (.ref b4), .val (.ref b7), .val (.ref b11), .val (.long (0 : Int64)), .second, .unset, .unset, .unset, .unset, .unset] [(.int na), (.long (0 : Int64))])) (fun _ k => XS.iload X64.here hx rfl (hb hby at_136) rfl k) ?_
              refine Done.st (B := T64.setTop (mkF m 139 #[.val (.int x0), .val (.int x1), .val (.int x2), .val (.int x3), .val (.int x4), .val (.int x5), .val (.int cnt), .val (.int na), .val (.int nb), .val (.int nc), .val (.int nd), .val (.ref b1), .val (.ref b2), .val (.ref b4), .val (.ref b7), .val (.ref b11), .val (.long (0 : Int64)), .second, .unset, .unset, .unset, .unset, .unset] [(.long (na.toInt64)), (.long (0 : Int64))])) (fun _ k => XS.i2l X64.here hx rfl (hb hby at_138) rfl k) ?_
              refine Done.st (B := T64.setTop (mkF m 140 #[.val (.int x0), .val (.int x1), .val (.int x2), .val (.int x3), .val (.int x4), .val (.int x5), .val (.int cnt), .val (.int na), .val (.int nb), .val (.int nc), .val (.int nd), .val (.ref b1), .val (.ref b2), .val (.ref b4), .val (.ref b7), .val (.ref b11), .val (.long (0 : Int64)), .second, .unset, .unset, .unset, .unset, .unset] [(.long ((0 : Int64) + (na.toInt64)))])) (fun _ k => XS.ladd X64.here hx rfl (hb hby at_139) rfl k) ?_
              refine Done.st (B := T64.setTop (mkF m 142 #[.val (.int x0), .val (.int x1), .val (.int x2), .val (.int x3), .val (.int x4), .val (.int x5), .val (.int cnt), .val (.int na), .val (.int nb), .val (.int nc), .val (.int nd), .val (.ref b1), .val (.ref b2), .val (.ref b4), .val (.ref b7), .val (.ref b11), .val (.long ((0 : Int64) + (na.toInt64))), .second, .unset, .unset, .unset, .unset, .unset] [])) (fun _ k => XS.lstore X64.here hx rfl (hb hby at_140) rfl (l' := #[.val (.int x0), .val (.int x1), .val (.int x2), .val (.int x3), .val (.int x4), .val (.int x5), .val (.int cnt), .val (.int na), .val (.int nb), .val (.int nc), .val (.int nd), .val (.ref b1), .val (.ref b2), .val (.ref b4), .val (.ref b7), .val (.ref b11), .val (.long ((0 : Int64) + (na.toInt64))), .second, .unset, .unset, .unset, .unset, .unset]) rfl k) ?_
              refine Done.st (B := T64.setTop (mkF m 144 #[.val (.int x0), .val (.int x1), .val (.int x2), .val (.int x3), .val (.int x4), .val (.int x5), .val (.int cnt), .val (.int na), .val (.int nb), .val (.int nc), .val (.int nd), .val (.ref b1), .val (.ref b2), .val (.ref b4), .val (.ref b7), .val (.ref b11), .val (.long ((0 : Int64) + (na.toInt64))), .second, .unset, .unset, .unset, .unset, .unset] [(.int cnt)])) (fun _ k => XS.iload X64.here hx rfl (hb hby at_142) rfl k) ?_
              refine Done.st (B := T64.setTop (mkF m 145 #[.val (.int x0), .val (.int x1), .val (.int x2), .val (.int x3), .val (.int x4), .val (.int x5), .val (.int cnt), .val (.int na), .val (.int nb), .val (.int nc), .val (.int nd), .val (.ref b1), .val (.ref b2), .val (.ref b4), .val (.ref b7), .val (.ref b11), .val (.long ((0 : Int64) + (na.toInt64))), .second, .unset, .unset, .unset, .unset, .unset] [(.int (2 : Int32)), (.int cnt)])) (fun _ k => XS.iconst X64.here hx rfl (hb hby at_144) k) ?_
              refine Done.st (B := T64.setTop (mkF m 148 #[.val (.int x0), .val (.int x1), .val (.int x2), .val (.int x3), .val (.int x4), .val (.int x5), .val (.int cnt), .val (.int na), .val (.int nb), .val (.int nc), .val (.int nd), .val (.ref b1), .val (.ref b2), .val (.ref b4), .val (.ref b7), .val (.ref b11), .val (.long ((0 : Int64) + (na.toInt64))), .second, .unset, .unset, .unset, .unset, .unset] [])) (fun _ k => XS.icmpNo X64.here hx rfl (hb hby at_145) rfl (flt (by rw [hk]; decide : ¬ (cnt < (2 : Int32)))).1 k) ?_
              refine Done.st (B := T64.setTop (mkF m 150 #[.val (.int x0), .val (.int x1), .val (.int x2), .val (.int x3), .val (.int x4), .val (.int x5), .val (.int cnt), .val (.int na), .val (.int nb), .val (.int nc), .val (.int nd), .val (.ref b1), .val (.ref b2), .val (.ref b4), .val (.ref b7), .val (.ref b11), .val (.long ((0 : Int64) + (na.toInt64))), .second, .unset, .unset, .unset, .unset, .unset] [(.ref b11)])) (fun _ k => XS.aload X64.here hx rfl (hb hby at_148) rfl rfl k) ?_
              refine Done.st (B := T64.setTop (mkF m 152 #[.val (.int x0), .val (.int x1), .val (.int x2), .val (.int x3), .val (.int x4), .val (.int x5), .val (.int cnt), .val (.int na), .val (.int nb), .val (.int nc), .val (.int nd), .val (.ref b1), .val (.ref b2), .val (.ref b4), .val (.ref b7), .val (.ref b11), .val (.long ((0 : Int64) + (na.toInt64))), .second, .unset, .unset, .unset, .unset, .unset] [(.ref b2), (.ref b11)])) (fun _ k => XS.aload X64.here hx rfl (hb hby at_150) rfl rfl k) ?_
              have c69 := (((Exa.ext E11 fj108_5).keep K13).keep K64)
              obtain ⟨cq70, kq70, q70a, q70b, q70c⟩ := isOf hZ rfl f64_2
              obtain ⟨_, _, ⟨T70, L70, k70, n70⟩, -, X70, ⟨Lc70, hQ70, l70, y70, z70⟩, st70⟩ := X64.virtualBack hx (y := (⟨"java/util/ArrayList", "add", "(Ljava/lang/Object;)Z"⟩ : MethodName)) (z := (⟨"java/util/ArrayList", "add", "(Ljava/lang/Object;)Z"⟩ : MethodName)) hown (mvT hZ (hw _ (List.mem_of_getElem? (i := 54) rfl))) (mvT hZ (hw _ (List.mem_of_getElem? (i := 55) rfl))) (notFace_of_selects (args := #[]) (mvT hZ (hw _ (List.mem_of_getElem? (i := 57) rfl)))) (mvT hZ (hw _ (List.mem_of_getElem? (i := 57) rfl))) (mvT hZ (hw _ (List.mem_of_getElem? (i := 56) rfl))) (by decide) (backOf (W := 0) (rmA1_1 l Z a0 hw [] b11 b2 g ((0 : Int32) + (1 : Int32)) kg b1 T64.heap n0 Z64 f64_2 f64_3 f64_4 f64_5 ge_b11 f64_6 O_g ge_g ne_b11_g c69) hZ (hw _ (List.mem_of_getElem? (i := 58) rfl)) (hw _ (List.mem_of_getElem? (i := 3) rfl)) (by decide) (by decide)) q70a q70c (g := (mkF m 152 #[.val (.int x0), .val (.int x1), .val (.int x2), .val (.int x3), .val (.int x4), .val (.int x5), .val (.int cnt), .val (.int na), .val (.int nb), .val (.int nc), .val (.int nd), .val (.ref b1), .val (.ref b2), .val (.ref b4), .val (.ref b7), .val (.ref b11), .val (.long ((0 : Int64) + (na.toInt64))), .second, .unset, .unset, .unset, .unset, .unset] [(.ref b2), (.ref b11)])) rfl (by rw [hml]; rfl) (Steps.refl _) (argsL := [(.ref b2)]) (rest := []) (lenOf pd_10 rfl) rfl (by show 2 * 0 + _ ≤ _; exact Nat.le_of_eq rfl) (hb hby at_152) (fun _ _ => ⟨rfl, rfl, (by decide : 6 + 0 ≤ _), (by decide : 41 + 0 ≤ _)⟩)
              dsimp only [Pt.U, Pt.locs, Pt.cells, Pt.slots] at X70 l70 y70 z70 st70 hQ70
              subst l70 y70 z70
              obtain ⟨rfl, N70q, K70, f70_0, f70_1, f70_2, f70_3, f70_4⟩ := hQ70
              have N70 := Fr.app N64 N70q
              have Z70 : n0 ≤ T70.heap.size := Nat.le_trans Z64 K70.1
              refine Done.st (B := T70.setTop (mkF m 155 #[.val (.int x0), .val (.int x1), .val (.int x2), .val (.int x3), .val (.int x4), .val (.int x5), .val (.int cnt), .val (.int na), .val (.int nb), .val (.int nc), .val (.int nd), .val (.ref b1), .val (.ref b2), .val (.ref b4), .val (.ref b7), .val (.ref b11), .val (.long ((0 : Int64) + (na.toInt64))), .second, .unset, .unset, .unset, .unset, .unset] [(.int (1 : Int32))])) (fun _ k => st70.trans k) ?_
              refine Done.st (B := T70.setTop (mkF m 156 #[.val (.int x0), .val (.int x1), .val (.int x2), .val (.int x3), .val (.int x4), .val (.int x5), .val (.int cnt), .val (.int na), .val (.int nb), .val (.int nc), .val (.int nd), .val (.ref b1), .val (.ref b2), .val (.ref b4), .val (.ref b7), .val (.ref b11), .val (.long ((0 : Int64) + (na.toInt64))), .second, .unset, .unset, .unset, .unset, .unset] [])) (fun _ k => XS.pop X70.here hx rfl (hb hby at_155) rfl rfl k) ?_
              refine Done.st (B := T70.setTop (mkF m 158 #[.val (.int x0), .val (.int x1), .val (.int x2), .val (.int x3), .val (.int x4), .val (.int x5), .val (.int cnt), .val (.int na), .val (.int nb), .val (.int nc), .val (.int nd), .val (.ref b1), .val (.ref b2), .val (.ref b4), .val (.ref b7), .val (.ref b11), .val (.long ((0 : Int64) + (na.toInt64))), .second, .unset, .unset, .unset, .unset, .unset] [(.long ((0 : Int64) + (na.toInt64)))])) (fun _ k => XS.lload X70.here hx rfl (hb hby at_156) rfl k) ?_
              refine Done.st (B := T70.setTop (mkF m 160 #[.val (.int x0), .val (.int x1), .val (.int x2), .val (.int x3), .val (.int x4), .val (.int x5), .val (.int cnt), .val (.int na), .val (.int nb), .val (.int nc), .val (.int nd), .val (.ref b1), .val (.ref b2), .val (.ref b4), .val (.ref b7), .val (.ref b11), .val (.long ((0 : Int64) + (na.toInt64))), .second, .unset, .unset, .unset, .unset, .unset] [(.int nb), (.long ((0 : Int64) + (na.toInt64)))])) (fun _ k => XS.iload X70.here hx rfl (hb hby at_158) rfl k) ?_
              refine Done.st (B := T70.setTop (mkF m 161 #[.val (.int x0), .val (.int x1), .val (.int x2), .val (.int x3), .val (.int x4), .val (.int x5), .val (.int cnt), .val (.int na), .val (.int nb), .val (.int nc), .val (.int nd), .val (.ref b1), .val (.ref b2), .val (.ref b4), .val (.ref b7), .val (.ref b11), .val (.long ((0 : Int64) + (na.toInt64))), .second, .unset, .unset, .unset, .unset, .unset] [(.long (nb.toInt64)), (.long ((0 : Int64) + (na.toInt64)))])) (fun _ k => XS.i2l X70.here hx rfl (hb hby at_160) rfl k) ?_
              refine Done.st (B := T70.setTop (mkF m 162 #[.val (.int x0), .val (.int x1), .val (.int x2), .val (.int x3), .val (.int x4), .val (.int x5), .val (.int cnt), .val (.int na), .val (.int nb), .val (.int nc), .val (.int nd), .val (.ref b1), .val (.ref b2), .val (.ref b4), .val (.ref b7), .val (.ref b11), .val (.long ((0 : Int64) + (na.toInt64))), .second, .unset, .unset, .unset, .unset, .unset] [(.long (((0 : Int64) + (na.toInt64)) + (nb.toInt64)))])) (fun _ k => XS.ladd X70.here hx rfl (hb hby at_161) rfl k) ?_
              refine Done.st (B := T70.setTop (mkF m 164 #[.val (.int x0), .val (.int x1), .val (.int x2), .val (.int x3), .val (.int x4), .val (.int x5), .val (.int cnt), .val (.int na), .val (.int nb), .val (.int nc), .val (.int nd), .val (.ref b1), .val (.ref b2), .val (.ref b4), .val (.ref b7), .val (.ref b11), .val (.long (((0 : Int64) + (na.toInt64)) + (nb.toInt64))), .second, .unset, .unset, .unset, .unset, .unset] [])) (fun _ k => XS.lstore X70.here hx rfl (hb hby at_162) rfl (l' := #[.val (.int x0), .val (.int x1), .val (.int x2), .val (.int x3), .val (.int x4), .val (.int x5), .val (.int cnt), .val (.int na), .val (.int nb), .val (.int nc), .val (.int nd), .val (.ref b1), .val (.ref b2), .val (.ref b4), .val (.ref b7), .val (.ref b11), .val (.long (((0 : Int64) + (na.toInt64)) + (nb.toInt64))), .second, .unset, .unset, .unset, .unset, .unset]) rfl k) ?_
              refine Done.st (B := T70.setTop (mkF m 166 #[.val (.int x0), .val (.int x1), .val (.int x2), .val (.int x3), .val (.int x4), .val (.int x5), .val (.int cnt), .val (.int na), .val (.int nb), .val (.int nc), .val (.int nd), .val (.ref b1), .val (.ref b2), .val (.ref b4), .val (.ref b7), .val (.ref b11), .val (.long (((0 : Int64) + (na.toInt64)) + (nb.toInt64))), .second, .unset, .unset, .unset, .unset, .unset] [(.int cnt)])) (fun _ k => XS.iload X70.here hx rfl (hb hby at_164) rfl k) ?_
              refine Done.st (B := T70.setTop (mkF m 167 #[.val (.int x0), .val (.int x1), .val (.int x2), .val (.int x3), .val (.int x4), .val (.int x5), .val (.int cnt), .val (.int na), .val (.int nb), .val (.int nc), .val (.int nd), .val (.ref b1), .val (.ref b2), .val (.ref b4), .val (.ref b7), .val (.ref b11), .val (.long (((0 : Int64) + (na.toInt64)) + (nb.toInt64))), .second, .unset, .unset, .unset, .unset, .unset] [(.int (3 : Int32)), (.int cnt)])) (fun _ k => XS.iconst X70.here hx rfl (hb hby at_166) k) ?_
              refine Done.st (B := T70.setTop (mkF m 186 #[.val (.int x0), .val (.int x1), .val (.int x2), .val (.int x3), .val (.int x4), .val (.int x5), .val (.int cnt), .val (.int na), .val (.int nb), .val (.int nc), .val (.int nd), .val (.ref b1), .val (.ref b2), .val (.ref b4), .val (.ref b7), .val (.ref b11), .val (.long (((0 : Int64) + (na.toInt64)) + (nb.toInt64))), .second, .unset, .unset, .unset, .unset, .unset] [])) (fun _ k => XS.icmpYes X70.here hx rfl (pc0 := 167) (pc' := 186) rfl (hb hby at_167) rfl (tlt (by rw [hk]; decide : cnt < (3 : Int32))).1 (by decide) (by decide) k) ?_
              refine Done.st (B := T70.setTop (mkF m 188 #[.val (.int x0), .val (.int x1), .val (.int x2), .val (.int x3), .val (.int x4), .val (.int x5), .val (.int cnt), .val (.int na), .val (.int nb), .val (.int nc), .val (.int nd), .val (.ref b1), .val (.ref b2), .val (.ref b4), .val (.ref b7), .val (.ref b11), .val (.long (((0 : Int64) + (na.toInt64)) + (nb.toInt64))), .second, .unset, .unset, .unset, .unset, .unset] [(.int cnt)])) (fun _ k => XS.iload X70.here hx rfl (hb hby at_186) rfl k) ?_
              refine Done.st (B := T70.setTop (mkF m 189 #[.val (.int x0), .val (.int x1), .val (.int x2), .val (.int x3), .val (.int x4), .val (.int x5), .val (.int cnt), .val (.int na), .val (.int nb), .val (.int nc), .val (.int nd), .val (.ref b1), .val (.ref b2), .val (.ref b4), .val (.ref b7), .val (.ref b11), .val (.long (((0 : Int64) + (na.toInt64)) + (nb.toInt64))), .second, .unset, .unset, .unset, .unset, .unset] [(.int (4 : Int32)), (.int cnt)])) (fun _ k => XS.iconst X70.here hx rfl (hb hby at_188) k) ?_
              refine Done.st (B := T70.setTop (mkF m 208 #[.val (.int x0), .val (.int x1), .val (.int x2), .val (.int x3), .val (.int x4), .val (.int x5), .val (.int cnt), .val (.int na), .val (.int nb), .val (.int nc), .val (.int nd), .val (.ref b1), .val (.ref b2), .val (.ref b4), .val (.ref b7), .val (.ref b11), .val (.long (((0 : Int64) + (na.toInt64)) + (nb.toInt64))), .second, .unset, .unset, .unset, .unset, .unset] [])) (fun _ k => XS.icmpYes X70.here hx rfl (pc0 := 189) (pc' := 208) rfl (hb hby at_189) rfl (tlt (by rw [hk]; decide : cnt < (4 : Int32))).1 (by decide) (by decide) k) ?_
              obtain ⟨T71, h71, X71, e71, E71, A71, D71, -, st71⟩ := newO X70 hx hZ hown (hw _ (List.mem_of_getElem? (i := 27) rfl)) (hw _ (List.mem_of_getElem? (i := 28) rfl)) (hw _ (List.mem_of_getElem? (i := 29) rfl)) rfl (g := (mkF m 208 #[.val (.int x0), .val (.int x1), .val (.int x2), .val (.int x3), .val (.int x4), .val (.int x5), .val (.int cnt), .val (.int na), .val (.int nb), .val (.int nc), .val (.int nd), .val (.ref b1), .val (.ref b2), .val (.ref b4), .val (.ref b7), .val (.ref b11), .val (.long (((0 : Int64) + (na.toInt64)) + (nb.toInt64))), .second, .unset, .unset, .unset, .unset, .unset] [])) rfl (hb hby at_208) (by decide) (by decide)
              have c72 := ((c62.keep K64 (ninS ne_w_D_b11 nin0)).keep K70 (ninS ne_w_D_b11 (ninS ne_w_D_g nin0)))
              have c73 := ((c65.keep K64 (ninS ne_b1_b11 nin0)).keep K70 (ninS ne_b1_b11 (ninS ne_b1_g nin0)))
              have c74 := ((c66.keep K64 (ninS ne_b2_b11 nin0)).keep K70 (ninS ne_b2_b11 (ninS ne_b2_g nin0)))
              have c75 := ((c67.keep K64 (ninS ne_b4_b11 nin0)).keep K70 (ninS ne_b4_b11 (ninS ne_b4_g nin0)))
              have c76 := ((c68.keep K64 (ninS ne_b7_b11 nin0)).keep K70 (ninS ne_b7_b11 (ninS ne_b7_g nin0)))
              obtain ⟨b71, g71⟩ : ∃ z, z = T70.heap.size := ⟨_, rfl⟩
              rw [← g71] at A71 D71 st71
              have ne_w_D_b71 : w_D ≠ b71 := Nat.ne_of_lt (Nat.lt_of_lt_of_le c72.lt (Nat.le_of_eq g71.symm))
              have ne_b1_b71 : b1 ≠ b71 := Nat.ne_of_lt (Nat.lt_of_lt_of_le c73.lt (Nat.le_of_eq g71.symm))
              have ne_b2_b71 : b2 ≠ b71 := Nat.ne_of_lt (Nat.lt_of_lt_of_le c74.lt (Nat.le_of_eq g71.symm))
              have ne_b4_b71 : b4 ≠ b71 := Nat.ne_of_lt (Nat.lt_of_lt_of_le c75.lt (Nat.le_of_eq g71.symm))
              have ne_b7_b71 : b7 ≠ b71 := Nat.ne_of_lt (Nat.lt_of_lt_of_le c76.lt (Nat.le_of_eq g71.symm))
              have ne_b11_b71 : b11 ≠ b71 := Nat.ne_of_lt (Nat.lt_of_lt_of_le f70_0.lt (Nat.le_of_eq g71.symm))
              have ne_g_b71 : g ≠ b71 := Nat.ne_of_lt (Nat.lt_of_lt_of_le f70_4.lt (Nat.le_of_eq g71.symm))
              have ge_b71 : n0 ≤ b71 := Nat.le_trans Z70 (Nat.le_of_eq g71.symm)
              have Z71 : n0 ≤ h71.size := Nat.le_trans Z70 E71.1
              have F71_tests : Fld Z h71 b71 "com/example/percurso/percurso/suite/Suite" "tests" "[[I" .null := D71 (Or.inr (hw _ (List.mem_of_getElem? (i := 48) rfl))) (ty := (.array (.array .int))) (by decide)
              refine Done.st (B := T71.setTop (mkF m 211 #[.val (.int x0), .val (.int x1), .val (.int x2), .val (.int x3), .val (.int x4), .val (.int x5), .val (.int cnt), .val (.int na), .val (.int nb), .val (.int nc), .val (.int nd), .val (.ref b1), .val (.ref b2), .val (.ref b4), .val (.ref b7), .val (.ref b11), .val (.long (((0 : Int64) + (na.toInt64)) + (nb.toInt64))), .second, .unset, .unset, .unset, .unset, .unset] [(.ref b71)])) (fun _ k => st71 _ k) ?_
              refine Done.st (B := T71.setTop (mkF m 212 #[.val (.int x0), .val (.int x1), .val (.int x2), .val (.int x3), .val (.int x4), .val (.int x5), .val (.int cnt), .val (.int na), .val (.int nb), .val (.int nc), .val (.int nd), .val (.ref b1), .val (.ref b2), .val (.ref b4), .val (.ref b7), .val (.ref b11), .val (.long (((0 : Int64) + (na.toInt64)) + (nb.toInt64))), .second, .unset, .unset, .unset, .unset, .unset] [(.ref b71), (.ref b71)])) (fun _ k => XS.dup X71.here hx rfl (hb hby at_211) rfl rfl k) ?_
              refine Done.st (B := T71.setTop (mkF m 214 #[.val (.int x0), .val (.int x1), .val (.int x2), .val (.int x3), .val (.int x4), .val (.int x5), .val (.int cnt), .val (.int na), .val (.int nb), .val (.int nc), .val (.int nd), .val (.ref b1), .val (.ref b2), .val (.ref b4), .val (.ref b7), .val (.ref b11), .val (.long (((0 : Int64) + (na.toInt64)) + (nb.toInt64))), .second, .unset, .unset, .unset, .unset, .unset] [(.ref b11), (.ref b71), (.ref b71)])) (fun _ k => XS.aload X71.here hx rfl (hb hby at_212) rfl rfl k) ?_
              have c77 := (Exa.ext E71 f70_0)
              have c78 := (Fld.ext E71 f70_1)
              have c79 := (Fld.ext E71 f70_2)
              have c80 := (Fld.ext E71 f70_3)
              have c81 := (f70_4.ext E71)
              have c82 := (c73.ext E71)
              have c83 := (c74.ext E71)
              obtain ⟨_, _, ⟨T84, L84, k84, n84⟩, -, X84, ⟨Lc84, hQ84, l84, y84, z84⟩, st84⟩ := X71.specialBack hx (y := (⟨"com/example/percurso/percurso/suite/Suite", "<init>", "(Ljava/util/List;)V"⟩ : MethodName)) rfl hown (mvT hZ (hw _ (List.mem_of_getElem? (i := 30) rfl))) (mvT hZ (hw _ (List.mem_of_getElem? (i := 31) rfl))) (mvT hZ (hw _ (List.mem_of_getElem? (i := 32) rfl))) (by decide) (backOf (W := 1) (rmSI_2 l Z a0 hw [] b71 b11 (((0 : Int32) + (1 : Int32)) + (1 : Int32)) g kg b1 b2 na nb h71 n0 Z71 F71_tests A71 ge_b71 c77 c78 c79 c80 c81 c82 hna c83 hnb (Ne.symm ne_b11_b71) (Ne.symm ne_g_b71) (Ne.symm ne_b1_b71) (Ne.symm ne_b2_b71)) hZ (hw _ (List.mem_of_getElem? (i := 32) rfl)) (hw _ (List.mem_of_getElem? (i := 29) rfl)) (by decide) (by decide)) (g := (mkF m 214 #[.val (.int x0), .val (.int x1), .val (.int x2), .val (.int x3), .val (.int x4), .val (.int x5), .val (.int cnt), .val (.int na), .val (.int nb), .val (.int nc), .val (.int nd), .val (.ref b1), .val (.ref b2), .val (.ref b4), .val (.ref b7), .val (.ref b11), .val (.long (((0 : Int64) + (na.toInt64)) + (nb.toInt64))), .second, .unset, .unset, .unset, .unset, .unset] [(.ref b11), (.ref b71), (.ref b71)])) rfl (by rw [hml]; rfl) (Steps.refl _) (a := b71) (argsL := [(.ref b11)]) (rest := [(.ref b71)]) (lenOf pd_8 rfl) rfl (by show 2 * 0 + _ ≤ _; exact Nat.le_of_eq rfl) (hb hby at_214) (fun _ _ => ⟨rfl, e71, (by decide : 7 + 3 ≤ _), (by decide : 42 + 16 ≤ _)⟩)
              dsimp only [Pt.U, Pt.locs, Pt.cells, Pt.slots] at X84 l84 y84 z84 st84 hQ84
              subst l84 y84 z84
              have c85 := (c72.ext E71)
              have c86 := (c75.ext E71)
              have c87 := (c76.ext E71)
              obtain ⟨u, ku, ca0, ca1, rfl, N84q, K84, f84_0, f84_1, f84_2, f84_3, f84_4, f84_5⟩ := hQ84
              have N84 := Fr.app N70 N84q
              have ne_w_D_u : w_D ≠ u := Nat.ne_of_lt (Nat.lt_of_lt_of_le c85.lt f84_0)
              have ne_b1_u : b1 ≠ u := Nat.ne_of_lt (Nat.lt_of_lt_of_le c82.lt f84_0)
              have ne_b2_u : b2 ≠ u := Nat.ne_of_lt (Nat.lt_of_lt_of_le c83.lt f84_0)
              have ne_b4_u : b4 ≠ u := Nat.ne_of_lt (Nat.lt_of_lt_of_le c86.lt f84_0)
              have ne_b7_u : b7 ≠ u := Nat.ne_of_lt (Nat.lt_of_lt_of_le c87.lt f84_0)
              have ne_b11_u : b11 ≠ u := Nat.ne_of_lt (Nat.lt_of_lt_of_le c77.lt f84_0)
              have ne_g_u : g ≠ u := Nat.ne_of_lt (Nat.lt_of_lt_of_le c81.lt f84_0)
              have ne_b71_u : b71 ≠ u := Nat.ne_of_lt (Nat.lt_of_lt_of_le A71.lt f84_0)
              have ge_u : n0 ≤ u := Nat.le_trans Z71 f84_0
              have Z84 : n0 ≤ T84.heap.size := Nat.le_trans Z71 K84.1
              refine Done.st (B := T84.setTop (mkF m 217 #[.val (.int x0), .val (.int x1), .val (.int x2), .val (.int x3), .val (.int x4), .val (.int x5), .val (.int cnt), .val (.int na), .val (.int nb), .val (.int nc), .val (.int nd), .val (.ref b1), .val (.ref b2), .val (.ref b4), .val (.ref b7), .val (.ref b11), .val (.long (((0 : Int64) + (na.toInt64)) + (nb.toInt64))), .second, .unset, .unset, .unset, .unset, .unset] [(.ref b71)])) (fun _ k => st84.trans k) ?_
              refine Done.st (B := T84.setTop (mkF m 219 #[.val (.int x0), .val (.int x1), .val (.int x2), .val (.int x3), .val (.int x4), .val (.int x5), .val (.int cnt), .val (.int na), .val (.int nb), .val (.int nc), .val (.int nd), .val (.ref b1), .val (.ref b2), .val (.ref b4), .val (.ref b7), .val (.ref b11), .val (.long (((0 : Int64) + (na.toInt64)) + (nb.toInt64))), .second, .val (.ref b71), .unset, .unset, .unset, .unset] [])) (fun _ k => XS.astore X84.here hx rfl (hb hby at_217) rfl rfl (l' := #[.val (.int x0), .val (.int x1), .val (.int x2), .val (.int x3), .val (.int x4), .val (.int x5), .val (.int cnt), .val (.int na), .val (.int nb), .val (.int nc), .val (.int nd), .val (.ref b1), .val (.ref b2), .val (.ref b4), .val (.ref b7), .val (.ref b11), .val (.long (((0 : Int64) + (na.toInt64)) + (nb.toInt64))), .second, .val (.ref b71), .unset, .unset, .unset, .unset]) rfl k) ?_
              refine Done.st (B := T84.setTop (mkF m 221 #[.val (.int x0), .val (.int x1), .val (.int x2), .val (.int x3), .val (.int x4), .val (.int x5), .val (.int cnt), .val (.int na), .val (.int nb), .val (.int nc), .val (.int nd), .val (.ref b1), .val (.ref b2), .val (.ref b4), .val (.ref b7), .val (.ref b11), .val (.long (((0 : Int64) + (na.toInt64)) + (nb.toInt64))), .second, .val (.ref b71), .unset, .unset, .unset, .unset] [(.ref b71)])) (fun _ k => XS.aload X84.here hx rfl (hb hby at_219) rfl rfl k) ?_
              obtain ⟨cq88, kq88, q88a, q88b, q88c⟩ := isOf hZ rfl f84_1
              obtain ⟨_, _, ⟨T88, L88, k88, n88⟩, -, X88, ⟨Lc88, hQ88, l88, y88, z88⟩, st88⟩ := X84.virtualBack hx (y := (⟨"com/example/percurso/percurso/suite/Suite", "inputCount", "()J"⟩ : MethodName)) (z := (⟨"com/example/percurso/percurso/suite/Suite", "inputCount", "()J"⟩ : MethodName)) hown (mvT hZ (hw _ (List.mem_of_getElem? (i := 49) rfl))) (mvT hZ (hw _ (List.mem_of_getElem? (i := 50) rfl))) (notFace_of_selects (args := #[]) (mvT hZ (hw _ (List.mem_of_getElem? (i := 52) rfl)))) (mvT hZ (hw _ (List.mem_of_getElem? (i := 52) rfl))) (mvT hZ (hw _ (List.mem_of_getElem? (i := 51) rfl))) (by decide) (backOf (W := 0) (rmIC_2 l Z a0 hw [] b71 u ku ca0 ca1 na nb T84.heap n0 Z84 f84_2 f84_3 f84_4 f84_5) hZ (hw _ (List.mem_of_getElem? (i := 53) rfl)) (hw _ (List.mem_of_getElem? (i := 29) rfl)) (by decide) (by decide)) q88a q88c (g := (mkF m 221 #[.val (.int x0), .val (.int x1), .val (.int x2), .val (.int x3), .val (.int x4), .val (.int x5), .val (.int cnt), .val (.int na), .val (.int nb), .val (.int nc), .val (.int nd), .val (.ref b1), .val (.ref b2), .val (.ref b4), .val (.ref b7), .val (.ref b11), .val (.long (((0 : Int64) + (na.toInt64)) + (nb.toInt64))), .second, .val (.ref b71), .unset, .unset, .unset, .unset] [(.ref b71)])) rfl (by rw [hml]; rfl) (Steps.refl _) (argsL := []) (rest := []) (lenOf pd_9 rfl) rfl (by show 2 * 0 + _ ≤ _; exact Nat.le_of_eq rfl) (hb hby at_221) (fun _ _ => ⟨rfl, rfl, (by decide : 10 + 0 ≤ _), (by decide : 58 + 0 ≤ _)⟩)
              dsimp only [Pt.U, Pt.locs, Pt.cells, Pt.slots] at X88 l88 y88 z88 st88 hQ88
              subst l88 y88 z88
              obtain ⟨rfl, N88q, e88⟩ := hQ88
              have N88 := Fr.app N84 N88q
              refine Done.st (B := T88.setTop (mkF m 224 #[.val (.int x0), .val (.int x1), .val (.int x2), .val (.int x3), .val (.int x4), .val (.int x5), .val (.int cnt), .val (.int na), .val (.int nb), .val (.int nc), .val (.int nd), .val (.ref b1), .val (.ref b2), .val (.ref b4), .val (.ref b7), .val (.ref b11), .val (.long (((0 : Int64) + (na.toInt64)) + (nb.toInt64))), .second, .val (.ref b71), .unset, .unset, .unset, .unset] [(.long (((0 : Int64) + (na.toInt64)) + (nb.toInt64)))])) (fun _ k => st88.trans k) ?_
              refine Done.st (B := T88.setTop (mkF m 226 #[.val (.int x0), .val (.int x1), .val (.int x2), .val (.int x3), .val (.int x4), .val (.int x5), .val (.int cnt), .val (.int na), .val (.int nb), .val (.int nc), .val (.int nd), .val (.ref b1), .val (.ref b2), .val (.ref b4), .val (.ref b7), .val (.ref b11), .val (.long (((0 : Int64) + (na.toInt64)) + (nb.toInt64))), .second, .val (.ref b71), .val (.long (((0 : Int64) + (na.toInt64)) + (nb.toInt64))), .second, .unset, .unset] [])) (fun _ k => XS.lstore X88.here hx rfl (hb hby at_224) rfl (l' := #[.val (.int x0), .val (.int x1), .val (.int x2), .val (.int x3), .val (.int x4), .val (.int x5), .val (.int cnt), .val (.int na), .val (.int nb), .val (.int nc), .val (.int nd), .val (.ref b1), .val (.ref b2), .val (.ref b4), .val (.ref b7), .val (.ref b11), .val (.long (((0 : Int64) + (na.toInt64)) + (nb.toInt64))), .second, .val (.ref b71), .val (.long (((0 : Int64) + (na.toInt64)) + (nb.toInt64))), .second, .unset, .unset]) rfl k) ?_
              refine Done.st (B := T88.setTop (mkF m 228 #[.val (.int x0), .val (.int x1), .val (.int x2), .val (.int x3), .val (.int x4), .val (.int x5), .val (.int cnt), .val (.int na), .val (.int nb), .val (.int nc), .val (.int nd), .val (.ref b1), .val (.ref b2), .val (.ref b4), .val (.ref b7), .val (.ref b11), .val (.long (((0 : Int64) + (na.toInt64)) + (nb.toInt64))), .second, .val (.ref b71), .val (.long (((0 : Int64) + (na.toInt64)) + (nb.toInt64))), .second, .unset, .unset] [(.ref b71)])) (fun _ k => XS.aload X88.here hx rfl (hb hby at_226) rfl rfl k) ?_
              obtain ⟨cq89, kq89, q89a, q89b, q89c⟩ := isOf hZ e88 f84_1
              obtain ⟨_, _, ⟨T89, L89, k89, n89⟩, -, X89, ⟨Lc89, hQ89, l89, y89, z89⟩, st89⟩ := X88.virtualBack hx (y := (⟨"com/example/percurso/percurso/suite/Suite", "inputCount", "()J"⟩ : MethodName)) (z := (⟨"com/example/percurso/percurso/suite/Suite", "inputCount", "()J"⟩ : MethodName)) hown (mvT hZ (hw _ (List.mem_of_getElem? (i := 49) rfl))) (mvT hZ (hw _ (List.mem_of_getElem? (i := 50) rfl))) (notFace_of_selects (args := #[]) (mvT hZ (hw _ (List.mem_of_getElem? (i := 52) rfl)))) (mvT hZ (hw _ (List.mem_of_getElem? (i := 52) rfl))) (mvT hZ (hw _ (List.mem_of_getElem? (i := 51) rfl))) (by decide) (backOf (W := 0) (rmIC_2 l Z a0 hw [] b71 u ku ca0 ca1 na nb T84.heap n0 Z84 f84_2 f84_3 f84_4 f84_5) hZ (hw _ (List.mem_of_getElem? (i := 53) rfl)) (hw _ (List.mem_of_getElem? (i := 29) rfl)) (by decide) (by decide)) q89a q89c (g := (mkF m 228 #[.val (.int x0), .val (.int x1), .val (.int x2), .val (.int x3), .val (.int x4), .val (.int x5), .val (.int cnt), .val (.int na), .val (.int nb), .val (.int nc), .val (.int nd), .val (.ref b1), .val (.ref b2), .val (.ref b4), .val (.ref b7), .val (.ref b11), .val (.long (((0 : Int64) + (na.toInt64)) + (nb.toInt64))), .second, .val (.ref b71), .val (.long (((0 : Int64) + (na.toInt64)) + (nb.toInt64))), .second, .unset, .unset] [(.ref b71)])) rfl (by rw [hml]; rfl) (Steps.refl _) (argsL := []) (rest := []) (lenOf pd_9 rfl) rfl (by show 2 * 0 + _ ≤ _; exact Nat.le_of_eq rfl) (hb hby at_228) (fun _ _ => ⟨rfl, e88, (by decide : 10 + 0 ≤ _), (by decide : 58 + 0 ≤ _)⟩)
              dsimp only [Pt.U, Pt.locs, Pt.cells, Pt.slots] at X89 l89 y89 z89 st89 hQ89
              subst l89 y89 z89
              obtain ⟨rfl, N89q, e89⟩ := hQ89
              have N89 := Fr.app N88 N89q
              refine Done.st (B := T89.setTop (mkF m 231 #[.val (.int x0), .val (.int x1), .val (.int x2), .val (.int x3), .val (.int x4), .val (.int x5), .val (.int cnt), .val (.int na), .val (.int nb), .val (.int nc), .val (.int nd), .val (.ref b1), .val (.ref b2), .val (.ref b4), .val (.ref b7), .val (.ref b11), .val (.long (((0 : Int64) + (na.toInt64)) + (nb.toInt64))), .second, .val (.ref b71), .val (.long (((0 : Int64) + (na.toInt64)) + (nb.toInt64))), .second, .unset, .unset] [(.long (((0 : Int64) + (na.toInt64)) + (nb.toInt64)))])) (fun _ k => st89.trans k) ?_
              refine Done.st (B := T89.setTop (mkF m 233 #[.val (.int x0), .val (.int x1), .val (.int x2), .val (.int x3), .val (.int x4), .val (.int x5), .val (.int cnt), .val (.int na), .val (.int nb), .val (.int nc), .val (.int nd), .val (.ref b1), .val (.ref b2), .val (.ref b4), .val (.ref b7), .val (.ref b11), .val (.long (((0 : Int64) + (na.toInt64)) + (nb.toInt64))), .second, .val (.ref b71), .val (.long (((0 : Int64) + (na.toInt64)) + (nb.toInt64))), .second, .val (.long (((0 : Int64) + (na.toInt64)) + (nb.toInt64))), .second] [])) (fun _ k => XS.lstore X89.here hx rfl (hb hby at_231) rfl (l' := #[.val (.int x0), .val (.int x1), .val (.int x2), .val (.int x3), .val (.int x4), .val (.int x5), .val (.int cnt), .val (.int na), .val (.int nb), .val (.int nc), .val (.int nd), .val (.ref b1), .val (.ref b2), .val (.ref b4), .val (.ref b7), .val (.ref b11), .val (.long (((0 : Int64) + (na.toInt64)) + (nb.toInt64))), .second, .val (.ref b71), .val (.long (((0 : Int64) + (na.toInt64)) + (nb.toInt64))), .second, .val (.long (((0 : Int64) + (na.toInt64)) + (nb.toInt64))), .second]) rfl k) ?_
              refine Done.st (B := T89.setTop (mkF m 235 #[.val (.int x0), .val (.int x1), .val (.int x2), .val (.int x3), .val (.int x4), .val (.int x5), .val (.int cnt), .val (.int na), .val (.int nb), .val (.int nc), .val (.int nd), .val (.ref b1), .val (.ref b2), .val (.ref b4), .val (.ref b7), .val (.ref b11), .val (.long (((0 : Int64) + (na.toInt64)) + (nb.toInt64))), .second, .val (.ref b71), .val (.long (((0 : Int64) + (na.toInt64)) + (nb.toInt64))), .second, .val (.long (((0 : Int64) + (na.toInt64)) + (nb.toInt64))), .second] [(.long (((0 : Int64) + (na.toInt64)) + (nb.toInt64)))])) (fun _ k => XS.lload X89.here hx rfl (hb hby at_233) rfl k) ?_
              refine Done.st (B := T89.setTop (mkF m 237 #[.val (.int x0), .val (.int x1), .val (.int x2), .val (.int x3), .val (.int x4), .val (.int x5), .val (.int cnt), .val (.int na), .val (.int nb), .val (.int nc), .val (.int nd), .val (.ref b1), .val (.ref b2), .val (.ref b4), .val (.ref b7), .val (.ref b11), .val (.long (((0 : Int64) + (na.toInt64)) + (nb.toInt64))), .second, .val (.ref b71), .val (.long (((0 : Int64) + (na.toInt64)) + (nb.toInt64))), .second, .val (.long (((0 : Int64) + (na.toInt64)) + (nb.toInt64))), .second] [(.long (((0 : Int64) + (na.toInt64)) + (nb.toInt64))), (.long (((0 : Int64) + (na.toInt64)) + (nb.toInt64)))])) (fun _ k => XS.lload X89.here hx rfl (hb hby at_235) rfl k) ?_
              refine Done.st (B := T89.setTop (mkF m 238 #[.val (.int x0), .val (.int x1), .val (.int x2), .val (.int x3), .val (.int x4), .val (.int x5), .val (.int cnt), .val (.int na), .val (.int nb), .val (.int nc), .val (.int nd), .val (.ref b1), .val (.ref b2), .val (.ref b4), .val (.ref b7), .val (.ref b11), .val (.long (((0 : Int64) + (na.toInt64)) + (nb.toInt64))), .second, .val (.ref b71), .val (.long (((0 : Int64) + (na.toInt64)) + (nb.toInt64))), .second, .val (.long (((0 : Int64) + (na.toInt64)) + (nb.toInt64))), .second] [(.int (lcmpW (((0 : Int64) + (na.toInt64)) + (nb.toInt64)) (((0 : Int64) + (na.toInt64)) + (nb.toInt64))))])) (fun _ k => XS.lcmp X89.here hx rfl (hb hby at_237) rfl k) ?_
              refine Done.st (B := T89.setTop (mkF m 241 #[.val (.int x0), .val (.int x1), .val (.int x2), .val (.int x3), .val (.int x4), .val (.int x5), .val (.int cnt), .val (.int na), .val (.int nb), .val (.int nc), .val (.int nd), .val (.ref b1), .val (.ref b2), .val (.ref b4), .val (.ref b7), .val (.ref b11), .val (.long (((0 : Int64) + (na.toInt64)) + (nb.toInt64))), .second, .val (.ref b71), .val (.long (((0 : Int64) + (na.toInt64)) + (nb.toInt64))), .second, .val (.long (((0 : Int64) + (na.toInt64)) + (nb.toInt64))), .second] [])) (fun _ k => XS.ifNo X89.here hx rfl (hb hby at_238) rfl ((if0 _ _).trans (teq ((lw_eq _ _).mpr (rfl : (((0 : Int64) + (na.toInt64)) + (nb.toInt64)) = (((0 : Int64) + (na.toInt64)) + (nb.toInt64))))).2) k) ?_
              refine Done.st (B := T89.setTop (mkF m 243 #[.val (.int x0), .val (.int x1), .val (.int x2), .val (.int x3), .val (.int x4), .val (.int x5), .val (.int cnt), .val (.int na), .val (.int nb), .val (.int nc), .val (.int nd), .val (.ref b1), .val (.ref b2), .val (.ref b4), .val (.ref b7), .val (.ref b11), .val (.long (((0 : Int64) + (na.toInt64)) + (nb.toInt64))), .second, .val (.ref b71), .val (.long (((0 : Int64) + (na.toInt64)) + (nb.toInt64))), .second, .val (.long (((0 : Int64) + (na.toInt64)) + (nb.toInt64))), .second] [(.long (((0 : Int64) + (na.toInt64)) + (nb.toInt64)))])) (fun _ k => XS.lload X89.here hx rfl (hb hby at_241) rfl k) ?_
              refine Done.st (B := T89.setTop (mkF m 245 #[.val (.int x0), .val (.int x1), .val (.int x2), .val (.int x3), .val (.int x4), .val (.int x5), .val (.int cnt), .val (.int na), .val (.int nb), .val (.int nc), .val (.int nd), .val (.ref b1), .val (.ref b2), .val (.ref b4), .val (.ref b7), .val (.ref b11), .val (.long (((0 : Int64) + (na.toInt64)) + (nb.toInt64))), .second, .val (.ref b71), .val (.long (((0 : Int64) + (na.toInt64)) + (nb.toInt64))), .second, .val (.long (((0 : Int64) + (na.toInt64)) + (nb.toInt64))), .second] [(.long (((0 : Int64) + (na.toInt64)) + (nb.toInt64))), (.long (((0 : Int64) + (na.toInt64)) + (nb.toInt64)))])) (fun _ k => XS.lload X89.here hx rfl (hb hby at_243) rfl k) ?_
              refine Done.st (B := T89.setTop (mkF m 246 #[.val (.int x0), .val (.int x1), .val (.int x2), .val (.int x3), .val (.int x4), .val (.int x5), .val (.int cnt), .val (.int na), .val (.int nb), .val (.int nc), .val (.int nd), .val (.ref b1), .val (.ref b2), .val (.ref b4), .val (.ref b7), .val (.ref b11), .val (.long (((0 : Int64) + (na.toInt64)) + (nb.toInt64))), .second, .val (.ref b71), .val (.long (((0 : Int64) + (na.toInt64)) + (nb.toInt64))), .second, .val (.long (((0 : Int64) + (na.toInt64)) + (nb.toInt64))), .second] [(.int (lcmpW (((0 : Int64) + (na.toInt64)) + (nb.toInt64)) (((0 : Int64) + (na.toInt64)) + (nb.toInt64))))])) (fun _ k => XS.lcmp X89.here hx rfl (hb hby at_245) rfl k) ?_
              refine Done.st (B := T89.setTop (mkF m 249 #[.val (.int x0), .val (.int x1), .val (.int x2), .val (.int x3), .val (.int x4), .val (.int x5), .val (.int cnt), .val (.int na), .val (.int nb), .val (.int nc), .val (.int nd), .val (.ref b1), .val (.ref b2), .val (.ref b4), .val (.ref b7), .val (.ref b11), .val (.long (((0 : Int64) + (na.toInt64)) + (nb.toInt64))), .second, .val (.ref b71), .val (.long (((0 : Int64) + (na.toInt64)) + (nb.toInt64))), .second, .val (.long (((0 : Int64) + (na.toInt64)) + (nb.toInt64))), .second] [])) (fun _ k => XS.ifNo X89.here hx rfl (hb hby at_246) rfl ((if0 _ _).trans (teq ((lw_eq _ _).mpr (rfl : (((0 : Int64) + (na.toInt64)) + (nb.toInt64)) = (((0 : Int64) + (na.toInt64)) + (nb.toInt64))))).2) k) ?_
              refine Done.st (B := T89.setTop (mkF m 250 #[.val (.int x0), .val (.int x1), .val (.int x2), .val (.int x3), .val (.int x4), .val (.int x5), .val (.int cnt), .val (.int na), .val (.int nb), .val (.int nc), .val (.int nd), .val (.ref b1), .val (.ref b2), .val (.ref b4), .val (.ref b7), .val (.ref b11), .val (.long (((0 : Int64) + (na.toInt64)) + (nb.toInt64))), .second, .val (.ref b71), .val (.long (((0 : Int64) + (na.toInt64)) + (nb.toInt64))), .second, .val (.long (((0 : Int64) + (na.toInt64)) + (nb.toInt64))), .second] [(.int (1 : Int32))])) (fun _ k => XS.iconst X89.here hx rfl (hb hby at_249) k) ?_
              refine Done.st (B := T89.setTop (mkF m 254 #[.val (.int x0), .val (.int x1), .val (.int x2), .val (.int x3), .val (.int x4), .val (.int x5), .val (.int cnt), .val (.int na), .val (.int nb), .val (.int nc), .val (.int nd), .val (.ref b1), .val (.ref b2), .val (.ref b4), .val (.ref b7), .val (.ref b11), .val (.long (((0 : Int64) + (na.toInt64)) + (nb.toInt64))), .second, .val (.ref b71), .val (.long (((0 : Int64) + (na.toInt64)) + (nb.toInt64))), .second, .val (.long (((0 : Int64) + (na.toInt64)) + (nb.toInt64))), .second] [(.int (1 : Int32))])) (fun _ k => XS.goto X89.here hx rfl (pc0 := 250) (pc' := 254) rfl (hb hby at_250) (by decide) (by decide) k) ?_
              obtain ⟨fs, hr, hrun, hended, hW, hsame⟩ := X89.leave (v := some (.int (1 : Int32))) (hlocks := hlk) (fun h => by rw [Bd.returns] at h; cases h)
              refine Done.fin (retN X89 hx (t := .boolean) Bd.returns (by simp) (hb hby at_254) hr) hrun hended ⟨_, _, rfl, ?_, ⟨_, rfl⟩, hW, hsame.mono (by decide) (by decide)⟩
              show Qrm0 Z x0 x1 x2 x3 x4 x5 w_D kw_D h0 n0 _ T89.heap _
              rw [e89]
              exact ⟨rfl, N89⟩
            · refine Done.st (B := T13.setTop (mkF m 122 #[.val (.int x0), .val (.int x1), .val (.int x2), .val (.int x3), .val (.int x4), .val (.int x5), .val (.int cnt), .val (.int na), .val (.int nb), .val (.int nc), .val (.int nd), .val (.ref b1), .val (.ref b2), .val (.ref b4), .val (.ref b7), .val (.ref b11), .val (.long (0 : Int64)), .second, .unset, .unset, .unset, .unset, .unset] [(.int cnt)])) (fun _ k => XS.iload X13.here hx rfl (hb hby at_120) rfl k) ?_
              refine Done.st (B := T13.setTop (mkF m 123 #[.val (.int x0), .val (.int x1), .val (.int x2), .val (.int x3), .val (.int x4), .val (.int x5), .val (.int cnt), .val (.int na), .val (.int nb), .val (.int nc), .val (.int nd), .val (.ref b1), .val (.ref b2), .val (.ref b4), .val (.ref b7), .val (.ref b11), .val (.long (0 : Int64)), .second, .unset, .unset, .unset, .unset, .unset] [(.int (1 : Int32)), (.int cnt)])) (fun _ k => XS.iconst X13.here hx rfl (hb hby at_122) k) ?_
              refine Done.st (B := T13.setTop (mkF m 126 #[.val (.int x0), .val (.int x1), .val (.int x2), .val (.int x3), .val (.int x4), .val (.int x5), .val (.int cnt), .val (.int na), .val (.int nb), .val (.int nc), .val (.int nd), .val (.ref b1), .val (.ref b2), .val (.ref b4), .val (.ref b7), .val (.ref b11), .val (.long (0 : Int64)), .second, .unset, .unset, .unset, .unset, .unset] [])) (fun _ k => XS.icmpNo X13.here hx rfl (hb hby at_123) rfl (flt (by rw [hk]; decide : ¬ (cnt < (1 : Int32)))).1 k) ?_
              refine Done.st (B := T13.setTop (mkF m 128 #[.val (.int x0), .val (.int x1), .val (.int x2), .val (.int x3), .val (.int x4), .val (.int x5), .val (.int cnt), .val (.int na), .val (.int nb), .val (.int nc), .val (.int nd), .val (.ref b1), .val (.ref b2), .val (.ref b4), .val (.ref b7), .val (.ref b11), .val (.long (0 : Int64)), .second, .unset, .unset, .unset, .unset, .unset] [(.ref b11)])) (fun _ k => XS.aload X13.here hx rfl (hb hby at_126) rfl rfl k) ?_
              refine Done.st (B := T13.setTop (mkF m 130 #[.val (.int x0), .val (.int x1), .val (.int x2), .val (.int x3), .val (.int x4), .val (.int x5), .val (.int cnt), .val (.int na), .val (.int nb), .val (.int nc), .val (.int nd), .val (.ref b1), .val (.ref b2), .val (.ref b4), .val (.ref b7), .val (.ref b11), .val (.long (0 : Int64)), .second, .unset, .unset, .unset, .unset, .unset] [(.ref b1), (.ref b11)])) (fun _ k => XS.aload X13.here hx rfl (hb hby at_128) rfl rfl k) ?_
              have c91 := (own_sta_keep c12 K13 (allS (own_ns_exa A11) all0))
              have c92 := ((fj108_1.ext E11).keep K13 (ninS ne_w_D_b11 nin0))
              have c93 := ((Exa.ext E11 fj108_3).keep K13)
              obtain ⟨cq94, kq94, q94a, q94b, q94c⟩ := isOf hZ rfl f13_0
              obtain ⟨_, _, ⟨T94, L94, k94, n94⟩, -, X94, ⟨Lc94, hQ94, l94, y94, z94⟩, st94⟩ := X13.virtualBack hx (y := (⟨"java/util/ArrayList", "add", "(Ljava/lang/Object;)Z"⟩ : MethodName)) (z := (⟨"java/util/ArrayList", "add", "(Ljava/lang/Object;)Z"⟩ : MethodName)) hown (mvT hZ (hw _ (List.mem_of_getElem? (i := 54) rfl))) (mvT hZ (hw _ (List.mem_of_getElem? (i := 55) rfl))) (notFace_of_selects (args := #[]) (mvT hZ (hw _ (List.mem_of_getElem? (i := 57) rfl)))) (mvT hZ (hw _ (List.mem_of_getElem? (i := 57) rfl))) (mvT hZ (hw _ (List.mem_of_getElem? (i := 56) rfl))) (by decide) (backOf (W := 0) (rmA1_0 l Z a0 hw [] b11 b1 (0 : Int32) w_D kw_D T13.heap n0 Z13 f13_0 f13_1 f13_2 f13_3 ge_b11 c91 c92 (Ne.symm ne_w_D_b11) c93) hZ (hw _ (List.mem_of_getElem? (i := 58) rfl)) (hw _ (List.mem_of_getElem? (i := 3) rfl)) (by decide) (by decide)) q94a q94c (g := (mkF m 130 #[.val (.int x0), .val (.int x1), .val (.int x2), .val (.int x3), .val (.int x4), .val (.int x5), .val (.int cnt), .val (.int na), .val (.int nb), .val (.int nc), .val (.int nd), .val (.ref b1), .val (.ref b2), .val (.ref b4), .val (.ref b7), .val (.ref b11), .val (.long (0 : Int64)), .second, .unset, .unset, .unset, .unset, .unset] [(.ref b1), (.ref b11)])) rfl (by rw [hml]; rfl) (Steps.refl _) (argsL := [(.ref b1)]) (rest := []) (lenOf pd_10 rfl) rfl (by show 2 * 0 + _ ≤ _; exact Nat.le_of_eq rfl) (hb hby at_130) (fun _ _ => ⟨rfl, rfl, (by decide : 5 + 1 ≤ _), (by decide : 31 + 10 ≤ _)⟩)
              dsimp only [Pt.U, Pt.locs, Pt.cells, Pt.slots] at X94 l94 y94 z94 st94 hQ94
              subst l94 y94 z94
              have c95 := ((fj108_2.ext E11).keep K13 (ninS ne_b1_b11 nin0))
              have c96 := ((fj108_4.ext E11).keep K13 (ninS ne_b2_b11 nin0))
              have c97 := ((fj108_6.ext E11).keep K13 (ninS ne_b4_b11 nin0))
              have c98 := ((fj108_8.ext E11).keep K13 (ninS ne_b7_b11 nin0))
              obtain ⟨g, kg, rfl, N94q, K94, f94_0, O_g, f94_2, f94_3, f94_4, f94_5, f94_6⟩ := hQ94
              have N94 := Fr.app N13 N94q
              have ne_w_D_g : w_D ≠ g := Nat.ne_of_lt (Nat.lt_of_lt_of_le c92.lt f94_0)
              have ne_b1_g : b1 ≠ g := Nat.ne_of_lt (Nat.lt_of_lt_of_le c95.lt f94_0)
              have ne_b2_g : b2 ≠ g := Nat.ne_of_lt (Nat.lt_of_lt_of_le c96.lt f94_0)
              have ne_b4_g : b4 ≠ g := Nat.ne_of_lt (Nat.lt_of_lt_of_le c97.lt f94_0)
              have ne_b7_g : b7 ≠ g := Nat.ne_of_lt (Nat.lt_of_lt_of_le c98.lt f94_0)
              have ne_b11_g : b11 ≠ g := Nat.ne_of_lt (Nat.lt_of_lt_of_le f13_0.lt f94_0)
              have ge_g : n0 ≤ g := Nat.le_trans Z13 f94_0
              have Z94 : n0 ≤ T94.heap.size := Nat.le_trans Z13 K94.1
              refine Done.st (B := T94.setTop (mkF m 133 #[.val (.int x0), .val (.int x1), .val (.int x2), .val (.int x3), .val (.int x4), .val (.int x5), .val (.int cnt), .val (.int na), .val (.int nb), .val (.int nc), .val (.int nd), .val (.ref b1), .val (.ref b2), .val (.ref b4), .val (.ref b7), .val (.ref b11), .val (.long (0 : Int64)), .second, .unset, .unset, .unset, .unset, .unset] [(.int (1 : Int32))])) (fun _ k => st94.trans k) ?_
              refine Done.st (B := T94.setTop (mkF m 134 #[.val (.int x0), .val (.int x1), .val (.int x2), .val (.int x3), .val (.int x4), .val (.int x5), .val (.int cnt), .val (.int na), .val (.int nb), .val (.int nc), .val (.int nd), .val (.ref b1), .val (.ref b2), .val (.ref b4), .val (.ref b7), .val (.ref b11), .val (.long (0 : Int64)), .second, .unset, .unset, .unset, .unset, .unset] [])) (fun _ k => XS.pop X94.here hx rfl (hb hby at_133) rfl rfl k) ?_
              refine Done.st (B := T94.setTop (mkF m 136 #[.val (.int x0), .val (.int x1), .val (.int x2), .val (.int x3), .val (.int x4), .val (.int x5), .val (.int cnt), .val (.int na), .val (.int nb), .val (.int nc), .val (.int nd), .val (.ref b1), .val (.ref b2), .val (.ref b4), .val (.ref b7), .val (.ref b11), .val (.long (0 : Int64)), .second, .unset, .unset, .unset, .unset, .unset] [(.long (0 : Int64))])) (fun _ k => XS.lload X94.here hx rfl (hb hby at_134) rfl k) ?_
              refine Done.st (B := T94.setTop (mkF m 138 #[.val (.int x0), .val (.int x1), .val (.int x2), .val (.int x3), .val (.int x4), .val (.int x5), .val (.int cnt), .val (.int na), .val (.int nb), .val (.int nc), .val (.int nd), .val (.ref b1), .val (.ref b2), .val (.ref b4), .val (.ref b7), .val (.ref b11), .val (.long (0 : Int64)), .second, .unset, .unset, .unset, .unset, .unset] [(.int na), (.long (0 : Int64))])) (fun _ k => XS.iload X94.here hx rfl (hb hby at_136) rfl k) ?_
              refine Done.st (B := T94.setTop (mkF m 139 #[.val (.int x0), .val (.int x1), .val (.int x2), .val (.int x3), .val (.int x4), .val (.int x5), .val (.int cnt), .val (.int na), .val (.int nb), .val (.int nc), .val (.int nd), .val (.ref b1), .val (.ref b2), .val (.ref b4), .val (.ref b7), .val (.ref b11), .val (.long (0 : Int64)), .second, .unset, .unset, .unset, .unset, .unset] [(.long (na.toInt64)), (.long (0 : Int64))])) (fun _ k => XS.i2l X94.here hx rfl (hb hby at_138) rfl k) ?_
              refine Done.st (B := T94.setTop (mkF m 140 #[.val (.int x0), .val (.int x1), .val (.int x2), .val (.int x3), .val (.int x4), .val (.int x5), .val (.int cnt), .val (.int na), .val (.int nb), .val (.int nc), .val (.int nd), .val (.ref b1), .val (.ref b2), .val (.ref b4), .val (.ref b7), .val (.ref b11), .val (.long (0 : Int64)), .second, .unset, .unset, .unset, .unset, .unset] [(.long ((0 : Int64) + (na.toInt64)))])) (fun _ k => XS.ladd X94.here hx rfl (hb hby at_139) rfl k) ?_
              refine Done.st (B := T94.setTop (mkF m 142 #[.val (.int x0), .val (.int x1), .val (.int x2), .val (.int x3), .val (.int x4), .val (.int x5), .val (.int cnt), .val (.int na), .val (.int nb), .val (.int nc), .val (.int nd), .val (.ref b1), .val (.ref b2), .val (.ref b4), .val (.ref b7), .val (.ref b11), .val (.long ((0 : Int64) + (na.toInt64))), .second, .unset, .unset, .unset, .unset, .unset] [])) (fun _ k => XS.lstore X94.here hx rfl (hb hby at_140) rfl (l' := #[.val (.int x0), .val (.int x1), .val (.int x2), .val (.int x3), .val (.int x4), .val (.int x5), .val (.int cnt), .val (.int na), .val (.int nb), .val (.int nc), .val (.int nd), .val (.ref b1), .val (.ref b2), .val (.ref b4), .val (.ref b7), .val (.ref b11), .val (.long ((0 : Int64) + (na.toInt64))), .second, .unset, .unset, .unset, .unset, .unset]) rfl k) ?_
              refine Done.st (B := T94.setTop (mkF m 144 #[.val (.int x0), .val (.int x1), .val (.int x2), .val (.int x3), .val (.int x4), .val (.int x5), .val (.int cnt), .val (.int na), .val (.int nb), .val (.int nc), .val (.int nd), .val (.ref b1), .val (.ref b2), .val (.ref b4), .val (.ref b7), .val (.ref b11), .val (.long ((0 : Int64) + (na.toInt64))), .second, .unset, .unset, .unset, .unset, .unset] [(.int cnt)])) (fun _ k => XS.iload X94.here hx rfl (hb hby at_142) rfl k) ?_
              refine Done.st (B := T94.setTop (mkF m 145 #[.val (.int x0), .val (.int x1), .val (.int x2), .val (.int x3), .val (.int x4), .val (.int x5), .val (.int cnt), .val (.int na), .val (.int nb), .val (.int nc), .val (.int nd), .val (.ref b1), .val (.ref b2), .val (.ref b4), .val (.ref b7), .val (.ref b11), .val (.long ((0 : Int64) + (na.toInt64))), .second, .unset, .unset, .unset, .unset, .unset] [(.int (2 : Int32)), (.int cnt)])) (fun _ k => XS.iconst X94.here hx rfl (hb hby at_144) k) ?_
              refine Done.st (B := T94.setTop (mkF m 148 #[.val (.int x0), .val (.int x1), .val (.int x2), .val (.int x3), .val (.int x4), .val (.int x5), .val (.int cnt), .val (.int na), .val (.int nb), .val (.int nc), .val (.int nd), .val (.ref b1), .val (.ref b2), .val (.ref b4), .val (.ref b7), .val (.ref b11), .val (.long ((0 : Int64) + (na.toInt64))), .second, .unset, .unset, .unset, .unset, .unset] [])) (fun _ k => XS.icmpNo X94.here hx rfl (hb hby at_145) rfl (flt (by rw [hk]; decide : ¬ (cnt < (2 : Int32)))).1 k) ?_
              refine Done.st (B := T94.setTop (mkF m 150 #[.val (.int x0), .val (.int x1), .val (.int x2), .val (.int x3), .val (.int x4), .val (.int x5), .val (.int cnt), .val (.int na), .val (.int nb), .val (.int nc), .val (.int nd), .val (.ref b1), .val (.ref b2), .val (.ref b4), .val (.ref b7), .val (.ref b11), .val (.long ((0 : Int64) + (na.toInt64))), .second, .unset, .unset, .unset, .unset, .unset] [(.ref b11)])) (fun _ k => XS.aload X94.here hx rfl (hb hby at_148) rfl rfl k) ?_
              refine Done.st (B := T94.setTop (mkF m 152 #[.val (.int x0), .val (.int x1), .val (.int x2), .val (.int x3), .val (.int x4), .val (.int x5), .val (.int cnt), .val (.int na), .val (.int nb), .val (.int nc), .val (.int nd), .val (.ref b1), .val (.ref b2), .val (.ref b4), .val (.ref b7), .val (.ref b11), .val (.long ((0 : Int64) + (na.toInt64))), .second, .unset, .unset, .unset, .unset, .unset] [(.ref b2), (.ref b11)])) (fun _ k => XS.aload X94.here hx rfl (hb hby at_150) rfl rfl k) ?_
              have c99 := (((Exa.ext E11 fj108_5).keep K13).keep K94)
              obtain ⟨cq100, kq100, q100a, q100b, q100c⟩ := isOf hZ rfl f94_2
              obtain ⟨_, _, ⟨T100, L100, k100, n100⟩, -, X100, ⟨Lc100, hQ100, l100, y100, z100⟩, st100⟩ := X94.virtualBack hx (y := (⟨"java/util/ArrayList", "add", "(Ljava/lang/Object;)Z"⟩ : MethodName)) (z := (⟨"java/util/ArrayList", "add", "(Ljava/lang/Object;)Z"⟩ : MethodName)) hown (mvT hZ (hw _ (List.mem_of_getElem? (i := 54) rfl))) (mvT hZ (hw _ (List.mem_of_getElem? (i := 55) rfl))) (notFace_of_selects (args := #[]) (mvT hZ (hw _ (List.mem_of_getElem? (i := 57) rfl)))) (mvT hZ (hw _ (List.mem_of_getElem? (i := 57) rfl))) (mvT hZ (hw _ (List.mem_of_getElem? (i := 56) rfl))) (by decide) (backOf (W := 0) (rmA1_1 l Z a0 hw [] b11 b2 g ((0 : Int32) + (1 : Int32)) kg b1 T94.heap n0 Z94 f94_2 f94_3 f94_4 f94_5 ge_b11 f94_6 O_g ge_g ne_b11_g c99) hZ (hw _ (List.mem_of_getElem? (i := 58) rfl)) (hw _ (List.mem_of_getElem? (i := 3) rfl)) (by decide) (by decide)) q100a q100c (g := (mkF m 152 #[.val (.int x0), .val (.int x1), .val (.int x2), .val (.int x3), .val (.int x4), .val (.int x5), .val (.int cnt), .val (.int na), .val (.int nb), .val (.int nc), .val (.int nd), .val (.ref b1), .val (.ref b2), .val (.ref b4), .val (.ref b7), .val (.ref b11), .val (.long ((0 : Int64) + (na.toInt64))), .second, .unset, .unset, .unset, .unset, .unset] [(.ref b2), (.ref b11)])) rfl (by rw [hml]; rfl) (Steps.refl _) (argsL := [(.ref b2)]) (rest := []) (lenOf pd_10 rfl) rfl (by show 2 * 0 + _ ≤ _; exact Nat.le_of_eq rfl) (hb hby at_152) (fun _ _ => ⟨rfl, rfl, (by decide : 6 + 0 ≤ _), (by decide : 41 + 0 ≤ _)⟩)
              dsimp only [Pt.U, Pt.locs, Pt.cells, Pt.slots] at X100 l100 y100 z100 st100 hQ100
              subst l100 y100 z100
              obtain ⟨rfl, N100q, K100, f100_0, f100_1, f100_2, f100_3, f100_4⟩ := hQ100
              have N100 := Fr.app N94 N100q
              have Z100 : n0 ≤ T100.heap.size := Nat.le_trans Z94 K100.1
              refine Done.st (B := T100.setTop (mkF m 155 #[.val (.int x0), .val (.int x1), .val (.int x2), .val (.int x3), .val (.int x4), .val (.int x5), .val (.int cnt), .val (.int na), .val (.int nb), .val (.int nc), .val (.int nd), .val (.ref b1), .val (.ref b2), .val (.ref b4), .val (.ref b7), .val (.ref b11), .val (.long ((0 : Int64) + (na.toInt64))), .second, .unset, .unset, .unset, .unset, .unset] [(.int (1 : Int32))])) (fun _ k => st100.trans k) ?_
              refine Done.st (B := T100.setTop (mkF m 156 #[.val (.int x0), .val (.int x1), .val (.int x2), .val (.int x3), .val (.int x4), .val (.int x5), .val (.int cnt), .val (.int na), .val (.int nb), .val (.int nc), .val (.int nd), .val (.ref b1), .val (.ref b2), .val (.ref b4), .val (.ref b7), .val (.ref b11), .val (.long ((0 : Int64) + (na.toInt64))), .second, .unset, .unset, .unset, .unset, .unset] [])) (fun _ k => XS.pop X100.here hx rfl (hb hby at_155) rfl rfl k) ?_
              refine Done.st (B := T100.setTop (mkF m 158 #[.val (.int x0), .val (.int x1), .val (.int x2), .val (.int x3), .val (.int x4), .val (.int x5), .val (.int cnt), .val (.int na), .val (.int nb), .val (.int nc), .val (.int nd), .val (.ref b1), .val (.ref b2), .val (.ref b4), .val (.ref b7), .val (.ref b11), .val (.long ((0 : Int64) + (na.toInt64))), .second, .unset, .unset, .unset, .unset, .unset] [(.long ((0 : Int64) + (na.toInt64)))])) (fun _ k => XS.lload X100.here hx rfl (hb hby at_156) rfl k) ?_
              refine Done.st (B := T100.setTop (mkF m 160 #[.val (.int x0), .val (.int x1), .val (.int x2), .val (.int x3), .val (.int x4), .val (.int x5), .val (.int cnt), .val (.int na), .val (.int nb), .val (.int nc), .val (.int nd), .val (.ref b1), .val (.ref b2), .val (.ref b4), .val (.ref b7), .val (.ref b11), .val (.long ((0 : Int64) + (na.toInt64))), .second, .unset, .unset, .unset, .unset, .unset] [(.int nb), (.long ((0 : Int64) + (na.toInt64)))])) (fun _ k => XS.iload X100.here hx rfl (hb hby at_158) rfl k) ?_
              refine Done.st (B := T100.setTop (mkF m 161 #[.val (.int x0), .val (.int x1), .val (.int x2), .val (.int x3), .val (.int x4), .val (.int x5), .val (.int cnt), .val (.int na), .val (.int nb), .val (.int nc), .val (.int nd), .val (.ref b1), .val (.ref b2), .val (.ref b4), .val (.ref b7), .val (.ref b11), .val (.long ((0 : Int64) + (na.toInt64))), .second, .unset, .unset, .unset, .unset, .unset] [(.long (nb.toInt64)), (.long ((0 : Int64) + (na.toInt64)))])) (fun _ k => XS.i2l X100.here hx rfl (hb hby at_160) rfl k) ?_
              refine Done.st (B := T100.setTop (mkF m 162 #[.val (.int x0), .val (.int x1), .val (.int x2), .val (.int x3), .val (.int x4), .val (.int x5), .val (.int cnt), .val (.int na), .val (.int nb), .val (.int nc), .val (.int nd), .val (.ref b1), .val (.ref b2), .val (.ref b4), .val (.ref b7), .val (.ref b11), .val (.long ((0 : Int64) + (na.toInt64))), .second, .unset, .unset, .unset, .unset, .unset] [(.long (((0 : Int64) + (na.toInt64)) + (nb.toInt64)))])) (fun _ k => XS.ladd X100.here hx rfl (hb hby at_161) rfl k) ?_
              refine Done.st (B := T100.setTop (mkF m 164 #[.val (.int x0), .val (.int x1), .val (.int x2), .val (.int x3), .val (.int x4), .val (.int x5), .val (.int cnt), .val (.int na), .val (.int nb), .val (.int nc), .val (.int nd), .val (.ref b1), .val (.ref b2), .val (.ref b4), .val (.ref b7), .val (.ref b11), .val (.long (((0 : Int64) + (na.toInt64)) + (nb.toInt64))), .second, .unset, .unset, .unset, .unset, .unset] [])) (fun _ k => XS.lstore X100.here hx rfl (hb hby at_162) rfl (l' := #[.val (.int x0), .val (.int x1), .val (.int x2), .val (.int x3), .val (.int x4), .val (.int x5), .val (.int cnt), .val (.int na), .val (.int nb), .val (.int nc), .val (.int nd), .val (.ref b1), .val (.ref b2), .val (.ref b4), .val (.ref b7), .val (.ref b11), .val (.long (((0 : Int64) + (na.toInt64)) + (nb.toInt64))), .second, .unset, .unset, .unset, .unset, .unset]) rfl k) ?_
              refine Done.st (B := T100.setTop (mkF m 166 #[.val (.int x0), .val (.int x1), .val (.int x2), .val (.int x3), .val (.int x4), .val (.int x5), .val (.int cnt), .val (.int na), .val (.int nb), .val (.int nc), .val (.int nd), .val (.ref b1), .val (.ref b2), .val (.ref b4), .val (.ref b7), .val (.ref b11), .val (.long (((0 : Int64) + (na.toInt64)) + (nb.toInt64))), .second, .unset, .unset, .unset, .unset, .unset] [(.int cnt)])) (fun _ k => XS.iload X100.here hx rfl (hb hby at_164) rfl k) ?_
              refine Done.st (B := T100.setTop (mkF m 167 #[.val (.int x0), .val (.int x1), .val (.int x2), .val (.int x3), .val (.int x4), .val (.int x5), .val (.int cnt), .val (.int na), .val (.int nb), .val (.int nc), .val (.int nd), .val (.ref b1), .val (.ref b2), .val (.ref b4), .val (.ref b7), .val (.ref b11), .val (.long (((0 : Int64) + (na.toInt64)) + (nb.toInt64))), .second, .unset, .unset, .unset, .unset, .unset] [(.int (3 : Int32)), (.int cnt)])) (fun _ k => XS.iconst X100.here hx rfl (hb hby at_166) k) ?_
              refine Done.st (B := T100.setTop (mkF m 170 #[.val (.int x0), .val (.int x1), .val (.int x2), .val (.int x3), .val (.int x4), .val (.int x5), .val (.int cnt), .val (.int na), .val (.int nb), .val (.int nc), .val (.int nd), .val (.ref b1), .val (.ref b2), .val (.ref b4), .val (.ref b7), .val (.ref b11), .val (.long (((0 : Int64) + (na.toInt64)) + (nb.toInt64))), .second, .unset, .unset, .unset, .unset, .unset] [])) (fun _ k => XS.icmpNo X100.here hx rfl (hb hby at_167) rfl (flt (by rw [hk]; decide : ¬ (cnt < (3 : Int32)))).1 k) ?_
              refine Done.st (B := T100.setTop (mkF m 172 #[.val (.int x0), .val (.int x1), .val (.int x2), .val (.int x3), .val (.int x4), .val (.int x5), .val (.int cnt), .val (.int na), .val (.int nb), .val (.int nc), .val (.int nd), .val (.ref b1), .val (.ref b2), .val (.ref b4), .val (.ref b7), .val (.ref b11), .val (.long (((0 : Int64) + (na.toInt64)) + (nb.toInt64))), .second, .unset, .unset, .unset, .unset, .unset] [(.ref b11)])) (fun _ k => XS.aload X100.here hx rfl (hb hby at_170) rfl rfl k) ?_
              refine Done.st (B := T100.setTop (mkF m 174 #[.val (.int x0), .val (.int x1), .val (.int x2), .val (.int x3), .val (.int x4), .val (.int x5), .val (.int cnt), .val (.int na), .val (.int nb), .val (.int nc), .val (.int nd), .val (.ref b1), .val (.ref b2), .val (.ref b4), .val (.ref b7), .val (.ref b11), .val (.long (((0 : Int64) + (na.toInt64)) + (nb.toInt64))), .second, .unset, .unset, .unset, .unset, .unset] [(.ref b4), (.ref b11)])) (fun _ k => XS.aload X100.here hx rfl (hb hby at_172) rfl rfl k) ?_
              have c101 := ((((Exa.ext E11 fj108_7).keep K13).keep K94).keep K100)
              obtain ⟨cq102, kq102, q102a, q102b, q102c⟩ := isOf hZ rfl f100_0
              obtain ⟨_, _, ⟨T102, L102, k102, n102⟩, -, X102, ⟨Lc102, hQ102, l102, y102, z102⟩, st102⟩ := X100.virtualBack hx (y := (⟨"java/util/ArrayList", "add", "(Ljava/lang/Object;)Z"⟩ : MethodName)) (z := (⟨"java/util/ArrayList", "add", "(Ljava/lang/Object;)Z"⟩ : MethodName)) hown (mvT hZ (hw _ (List.mem_of_getElem? (i := 54) rfl))) (mvT hZ (hw _ (List.mem_of_getElem? (i := 55) rfl))) (notFace_of_selects (args := #[]) (mvT hZ (hw _ (List.mem_of_getElem? (i := 57) rfl)))) (mvT hZ (hw _ (List.mem_of_getElem? (i := 57) rfl))) (mvT hZ (hw _ (List.mem_of_getElem? (i := 56) rfl))) (by decide) (backOf (W := 0) (rmA1_2 l Z a0 hw [] b11 b4 g (((0 : Int32) + (1 : Int32)) + (1 : Int32)) kg b1 b2 T100.heap n0 Z100 f100_0 f100_1 f100_2 f100_3 ge_b11 f100_4 O_g ge_g ne_b11_g c101) hZ (hw _ (List.mem_of_getElem? (i := 58) rfl)) (hw _ (List.mem_of_getElem? (i := 3) rfl)) (by decide) (by decide)) q102a q102c (g := (mkF m 174 #[.val (.int x0), .val (.int x1), .val (.int x2), .val (.int x3), .val (.int x4), .val (.int x5), .val (.int cnt), .val (.int na), .val (.int nb), .val (.int nc), .val (.int nd), .val (.ref b1), .val (.ref b2), .val (.ref b4), .val (.ref b7), .val (.ref b11), .val (.long (((0 : Int64) + (na.toInt64)) + (nb.toInt64))), .second, .unset, .unset, .unset, .unset, .unset] [(.ref b4), (.ref b11)])) rfl (by rw [hml]; rfl) (Steps.refl _) (argsL := [(.ref b4)]) (rest := []) (lenOf pd_10 rfl) rfl (by show 2 * 0 + _ ≤ _; exact Nat.le_of_eq rfl) (hb hby at_174) (fun _ _ => ⟨rfl, rfl, (by decide : 6 + 0 ≤ _), (by decide : 41 + 0 ≤ _)⟩)
              dsimp only [Pt.U, Pt.locs, Pt.cells, Pt.slots] at X102 l102 y102 z102 st102 hQ102
              subst l102 y102 z102
              obtain ⟨rfl, N102q, K102, f102_0, f102_1, f102_2, f102_3, f102_4⟩ := hQ102
              have N102 := Fr.app N100 N102q
              have Z102 : n0 ≤ T102.heap.size := Nat.le_trans Z100 K102.1
              refine Done.st (B := T102.setTop (mkF m 177 #[.val (.int x0), .val (.int x1), .val (.int x2), .val (.int x3), .val (.int x4), .val (.int x5), .val (.int cnt), .val (.int na), .val (.int nb), .val (.int nc), .val (.int nd), .val (.ref b1), .val (.ref b2), .val (.ref b4), .val (.ref b7), .val (.ref b11), .val (.long (((0 : Int64) + (na.toInt64)) + (nb.toInt64))), .second, .unset, .unset, .unset, .unset, .unset] [(.int (1 : Int32))])) (fun _ k => st102.trans k) ?_
              refine Done.st (B := T102.setTop (mkF m 178 #[.val (.int x0), .val (.int x1), .val (.int x2), .val (.int x3), .val (.int x4), .val (.int x5), .val (.int cnt), .val (.int na), .val (.int nb), .val (.int nc), .val (.int nd), .val (.ref b1), .val (.ref b2), .val (.ref b4), .val (.ref b7), .val (.ref b11), .val (.long (((0 : Int64) + (na.toInt64)) + (nb.toInt64))), .second, .unset, .unset, .unset, .unset, .unset] [])) (fun _ k => XS.pop X102.here hx rfl (hb hby at_177) rfl rfl k) ?_
              refine Done.st (B := T102.setTop (mkF m 180 #[.val (.int x0), .val (.int x1), .val (.int x2), .val (.int x3), .val (.int x4), .val (.int x5), .val (.int cnt), .val (.int na), .val (.int nb), .val (.int nc), .val (.int nd), .val (.ref b1), .val (.ref b2), .val (.ref b4), .val (.ref b7), .val (.ref b11), .val (.long (((0 : Int64) + (na.toInt64)) + (nb.toInt64))), .second, .unset, .unset, .unset, .unset, .unset] [(.long (((0 : Int64) + (na.toInt64)) + (nb.toInt64)))])) (fun _ k => XS.lload X102.here hx rfl (hb hby at_178) rfl k) ?_
              refine Done.st (B := T102.setTop (mkF m 182 #[.val (.int x0), .val (.int x1), .val (.int x2), .val (.int x3), .val (.int x4), .val (.int x5), .val (.int cnt), .val (.int na), .val (.int nb), .val (.int nc), .val (.int nd), .val (.ref b1), .val (.ref b2), .val (.ref b4), .val (.ref b7), .val (.ref b11), .val (.long (((0 : Int64) + (na.toInt64)) + (nb.toInt64))), .second, .unset, .unset, .unset, .unset, .unset] [(.int nc), (.long (((0 : Int64) + (na.toInt64)) + (nb.toInt64)))])) (fun _ k => XS.iload X102.here hx rfl (hb hby at_180) rfl k) ?_
              refine Done.st (B := T102.setTop (mkF m 183 #[.val (.int x0), .val (.int x1), .val (.int x2), .val (.int x3), .val (.int x4), .val (.int x5), .val (.int cnt), .val (.int na), .val (.int nb), .val (.int nc), .val (.int nd), .val (.ref b1), .val (.ref b2), .val (.ref b4), .val (.ref b7), .val (.ref b11), .val (.long (((0 : Int64) + (na.toInt64)) + (nb.toInt64))), .second, .unset, .unset, .unset, .unset, .unset] [(.long (nc.toInt64)), (.long (((0 : Int64) + (na.toInt64)) + (nb.toInt64)))])) (fun _ k => XS.i2l X102.here hx rfl (hb hby at_182) rfl k) ?_
              refine Done.st (B := T102.setTop (mkF m 184 #[.val (.int x0), .val (.int x1), .val (.int x2), .val (.int x3), .val (.int x4), .val (.int x5), .val (.int cnt), .val (.int na), .val (.int nb), .val (.int nc), .val (.int nd), .val (.ref b1), .val (.ref b2), .val (.ref b4), .val (.ref b7), .val (.ref b11), .val (.long (((0 : Int64) + (na.toInt64)) + (nb.toInt64))), .second, .unset, .unset, .unset, .unset, .unset] [(.long ((((0 : Int64) + (na.toInt64)) + (nb.toInt64)) + (nc.toInt64)))])) (fun _ k => XS.ladd X102.here hx rfl (hb hby at_183) rfl k) ?_
              refine Done.st (B := T102.setTop (mkF m 186 #[.val (.int x0), .val (.int x1), .val (.int x2), .val (.int x3), .val (.int x4), .val (.int x5), .val (.int cnt), .val (.int na), .val (.int nb), .val (.int nc), .val (.int nd), .val (.ref b1), .val (.ref b2), .val (.ref b4), .val (.ref b7), .val (.ref b11), .val (.long ((((0 : Int64) + (na.toInt64)) + (nb.toInt64)) + (nc.toInt64))), .second, .unset, .unset, .unset, .unset, .unset] [])) (fun _ k => XS.lstore X102.here hx rfl (hb hby at_184) rfl (l' := #[.val (.int x0), .val (.int x1), .val (.int x2), .val (.int x3), .val (.int x4), .val (.int x5), .val (.int cnt), .val (.int na), .val (.int nb), .val (.int nc), .val (.int nd), .val (.ref b1), .val (.ref b2), .val (.ref b4), .val (.ref b7), .val (.ref b11), .val (.long ((((0 : Int64) + (na.toInt64)) + (nb.toInt64)) + (nc.toInt64))), .second, .unset, .unset, .unset, .unset, .unset]) rfl k) ?_
              refine Done.st (B := T102.setTop (mkF m 188 #[.val (.int x0), .val (.int x1), .val (.int x2), .val (.int x3), .val (.int x4), .val (.int x5), .val (.int cnt), .val (.int na), .val (.int nb), .val (.int nc), .val (.int nd), .val (.ref b1), .val (.ref b2), .val (.ref b4), .val (.ref b7), .val (.ref b11), .val (.long ((((0 : Int64) + (na.toInt64)) + (nb.toInt64)) + (nc.toInt64))), .second, .unset, .unset, .unset, .unset, .unset] [(.int cnt)])) (fun _ k => XS.iload X102.here hx rfl (hb hby at_186) rfl k) ?_
              refine Done.st (B := T102.setTop (mkF m 189 #[.val (.int x0), .val (.int x1), .val (.int x2), .val (.int x3), .val (.int x4), .val (.int x5), .val (.int cnt), .val (.int na), .val (.int nb), .val (.int nc), .val (.int nd), .val (.ref b1), .val (.ref b2), .val (.ref b4), .val (.ref b7), .val (.ref b11), .val (.long ((((0 : Int64) + (na.toInt64)) + (nb.toInt64)) + (nc.toInt64))), .second, .unset, .unset, .unset, .unset, .unset] [(.int (4 : Int32)), (.int cnt)])) (fun _ k => XS.iconst X102.here hx rfl (hb hby at_188) k) ?_
              refine Done.st (B := T102.setTop (mkF m 208 #[.val (.int x0), .val (.int x1), .val (.int x2), .val (.int x3), .val (.int x4), .val (.int x5), .val (.int cnt), .val (.int na), .val (.int nb), .val (.int nc), .val (.int nd), .val (.ref b1), .val (.ref b2), .val (.ref b4), .val (.ref b7), .val (.ref b11), .val (.long ((((0 : Int64) + (na.toInt64)) + (nb.toInt64)) + (nc.toInt64))), .second, .unset, .unset, .unset, .unset, .unset] [])) (fun _ k => XS.icmpYes X102.here hx rfl (pc0 := 189) (pc' := 208) rfl (hb hby at_189) rfl (tlt (by rw [hk]; decide : cnt < (4 : Int32))).1 (by decide) (by decide) k) ?_
              obtain ⟨T103, h103, X103, e103, E103, A103, D103, -, st103⟩ := newO X102 hx hZ hown (hw _ (List.mem_of_getElem? (i := 27) rfl)) (hw _ (List.mem_of_getElem? (i := 28) rfl)) (hw _ (List.mem_of_getElem? (i := 29) rfl)) rfl (g := (mkF m 208 #[.val (.int x0), .val (.int x1), .val (.int x2), .val (.int x3), .val (.int x4), .val (.int x5), .val (.int cnt), .val (.int na), .val (.int nb), .val (.int nc), .val (.int nd), .val (.ref b1), .val (.ref b2), .val (.ref b4), .val (.ref b7), .val (.ref b11), .val (.long ((((0 : Int64) + (na.toInt64)) + (nb.toInt64)) + (nc.toInt64))), .second, .unset, .unset, .unset, .unset, .unset] [])) rfl (hb hby at_208) (by decide) (by decide)
              have c104 := (((c92.keep K94 (ninS ne_w_D_b11 nin0)).keep K100 (ninS ne_w_D_b11 (ninS ne_w_D_g nin0))).keep K102 (ninS ne_w_D_b11 (ninS ne_w_D_g nin0)))
              have c105 := (((c95.keep K94 (ninS ne_b1_b11 nin0)).keep K100 (ninS ne_b1_b11 (ninS ne_b1_g nin0))).keep K102 (ninS ne_b1_b11 (ninS ne_b1_g nin0)))
              have c106 := (((c96.keep K94 (ninS ne_b2_b11 nin0)).keep K100 (ninS ne_b2_b11 (ninS ne_b2_g nin0))).keep K102 (ninS ne_b2_b11 (ninS ne_b2_g nin0)))
              have c107 := (((c97.keep K94 (ninS ne_b4_b11 nin0)).keep K100 (ninS ne_b4_b11 (ninS ne_b4_g nin0))).keep K102 (ninS ne_b4_b11 (ninS ne_b4_g nin0)))
              have c108 := (((c98.keep K94 (ninS ne_b7_b11 nin0)).keep K100 (ninS ne_b7_b11 (ninS ne_b7_g nin0))).keep K102 (ninS ne_b7_b11 (ninS ne_b7_g nin0)))
              obtain ⟨b103, g103⟩ : ∃ z, z = T102.heap.size := ⟨_, rfl⟩
              rw [← g103] at A103 D103 st103
              have ne_w_D_b103 : w_D ≠ b103 := Nat.ne_of_lt (Nat.lt_of_lt_of_le c104.lt (Nat.le_of_eq g103.symm))
              have ne_b1_b103 : b1 ≠ b103 := Nat.ne_of_lt (Nat.lt_of_lt_of_le c105.lt (Nat.le_of_eq g103.symm))
              have ne_b2_b103 : b2 ≠ b103 := Nat.ne_of_lt (Nat.lt_of_lt_of_le c106.lt (Nat.le_of_eq g103.symm))
              have ne_b4_b103 : b4 ≠ b103 := Nat.ne_of_lt (Nat.lt_of_lt_of_le c107.lt (Nat.le_of_eq g103.symm))
              have ne_b7_b103 : b7 ≠ b103 := Nat.ne_of_lt (Nat.lt_of_lt_of_le c108.lt (Nat.le_of_eq g103.symm))
              have ne_b11_b103 : b11 ≠ b103 := Nat.ne_of_lt (Nat.lt_of_lt_of_le f102_0.lt (Nat.le_of_eq g103.symm))
              have ne_g_b103 : g ≠ b103 := Nat.ne_of_lt (Nat.lt_of_lt_of_le f102_4.lt (Nat.le_of_eq g103.symm))
              have ge_b103 : n0 ≤ b103 := Nat.le_trans Z102 (Nat.le_of_eq g103.symm)
              have Z103 : n0 ≤ h103.size := Nat.le_trans Z102 E103.1
              have F103_tests : Fld Z h103 b103 "com/example/percurso/percurso/suite/Suite" "tests" "[[I" .null := D103 (Or.inr (hw _ (List.mem_of_getElem? (i := 48) rfl))) (ty := (.array (.array .int))) (by decide)
              refine Done.st (B := T103.setTop (mkF m 211 #[.val (.int x0), .val (.int x1), .val (.int x2), .val (.int x3), .val (.int x4), .val (.int x5), .val (.int cnt), .val (.int na), .val (.int nb), .val (.int nc), .val (.int nd), .val (.ref b1), .val (.ref b2), .val (.ref b4), .val (.ref b7), .val (.ref b11), .val (.long ((((0 : Int64) + (na.toInt64)) + (nb.toInt64)) + (nc.toInt64))), .second, .unset, .unset, .unset, .unset, .unset] [(.ref b103)])) (fun _ k => st103 _ k) ?_
              refine Done.st (B := T103.setTop (mkF m 212 #[.val (.int x0), .val (.int x1), .val (.int x2), .val (.int x3), .val (.int x4), .val (.int x5), .val (.int cnt), .val (.int na), .val (.int nb), .val (.int nc), .val (.int nd), .val (.ref b1), .val (.ref b2), .val (.ref b4), .val (.ref b7), .val (.ref b11), .val (.long ((((0 : Int64) + (na.toInt64)) + (nb.toInt64)) + (nc.toInt64))), .second, .unset, .unset, .unset, .unset, .unset] [(.ref b103), (.ref b103)])) (fun _ k => XS.dup X103.here hx rfl (hb hby at_211) rfl rfl k) ?_
              refine Done.st (B := T103.setTop (mkF m 214 #[.val (.int x0), .val (.int x1), .val (.int x2), .val (.int x3), .val (.int x4), .val (.int x5), .val (.int cnt), .val (.int na), .val (.int nb), .val (.int nc), .val (.int nd), .val (.ref b1), .val (.ref b2), .val (.ref b4), .val (.ref b7), .val (.ref b11), .val (.long ((((0 : Int64) + (na.toInt64)) + (nb.toInt64)) + (nc.toInt64))), .second, .unset, .unset, .unset, .unset, .unset] [(.ref b11), (.ref b103), (.ref b103)])) (fun _ k => XS.aload X103.here hx rfl (hb hby at_212) rfl rfl k) ?_
              have c109 := (Exa.ext E103 f102_0)
              have c110 := (Fld.ext E103 f102_1)
              have c111 := (Fld.ext E103 f102_2)
              have c112 := (Fld.ext E103 f102_3)
              have c113 := (f102_4.ext E103)
              have c114 := (c105.ext E103)
              have c115 := (c106.ext E103)
              have c116 := (c107.ext E103)
              obtain ⟨_, _, ⟨T117, L117, k117, n117⟩, -, X117, ⟨Lc117, hQ117, l117, y117, z117⟩, st117⟩ := X103.specialBack hx (y := (⟨"com/example/percurso/percurso/suite/Suite", "<init>", "(Ljava/util/List;)V"⟩ : MethodName)) rfl hown (mvT hZ (hw _ (List.mem_of_getElem? (i := 30) rfl))) (mvT hZ (hw _ (List.mem_of_getElem? (i := 31) rfl))) (mvT hZ (hw _ (List.mem_of_getElem? (i := 32) rfl))) (by decide) (backOf (W := 1) (rmSI_3 l Z a0 hw [] b103 b11 ((((0 : Int32) + (1 : Int32)) + (1 : Int32)) + (1 : Int32)) g kg b1 b2 b4 na nb nc h103 n0 Z103 F103_tests A103 ge_b103 c109 c110 c111 c112 c113 c114 hna c115 hnb c116 hnc (Ne.symm ne_b11_b103) (Ne.symm ne_g_b103) (Ne.symm ne_b1_b103) (Ne.symm ne_b2_b103) (Ne.symm ne_b4_b103)) hZ (hw _ (List.mem_of_getElem? (i := 32) rfl)) (hw _ (List.mem_of_getElem? (i := 29) rfl)) (by decide) (by decide)) (g := (mkF m 214 #[.val (.int x0), .val (.int x1), .val (.int x2), .val (.int x3), .val (.int x4), .val (.int x5), .val (.int cnt), .val (.int na), .val (.int nb), .val (.int nc), .val (.int nd), .val (.ref b1), .val (.ref b2), .val (.ref b4), .val (.ref b7), .val (.ref b11), .val (.long ((((0 : Int64) + (na.toInt64)) + (nb.toInt64)) + (nc.toInt64))), .second, .unset, .unset, .unset, .unset, .unset] [(.ref b11), (.ref b103), (.ref b103)])) rfl (by rw [hml]; rfl) (Steps.refl _) (a := b103) (argsL := [(.ref b11)]) (rest := [(.ref b103)]) (lenOf pd_8 rfl) rfl (by show 2 * 0 + _ ≤ _; exact Nat.le_of_eq rfl) (hb hby at_214) (fun _ _ => ⟨rfl, e103, (by decide : 7 + 4 ≤ _), (by decide : 42 + 24 ≤ _)⟩)
              dsimp only [Pt.U, Pt.locs, Pt.cells, Pt.slots] at X117 l117 y117 z117 st117 hQ117
              subst l117 y117 z117
              have c118 := (c104.ext E103)
              have c119 := (c108.ext E103)
              obtain ⟨u, ku, ca0, ca1, ca2, rfl, N117q, K117, f117_0, f117_1, f117_2, f117_3, f117_4, f117_5, f117_6⟩ := hQ117
              have N117 := Fr.app N102 N117q
              have ne_w_D_u : w_D ≠ u := Nat.ne_of_lt (Nat.lt_of_lt_of_le c118.lt f117_0)
              have ne_b1_u : b1 ≠ u := Nat.ne_of_lt (Nat.lt_of_lt_of_le c114.lt f117_0)
              have ne_b2_u : b2 ≠ u := Nat.ne_of_lt (Nat.lt_of_lt_of_le c115.lt f117_0)
              have ne_b4_u : b4 ≠ u := Nat.ne_of_lt (Nat.lt_of_lt_of_le c116.lt f117_0)
              have ne_b7_u : b7 ≠ u := Nat.ne_of_lt (Nat.lt_of_lt_of_le c119.lt f117_0)
              have ne_b11_u : b11 ≠ u := Nat.ne_of_lt (Nat.lt_of_lt_of_le c109.lt f117_0)
              have ne_g_u : g ≠ u := Nat.ne_of_lt (Nat.lt_of_lt_of_le c113.lt f117_0)
              have ne_b103_u : b103 ≠ u := Nat.ne_of_lt (Nat.lt_of_lt_of_le A103.lt f117_0)
              have ge_u : n0 ≤ u := Nat.le_trans Z103 f117_0
              have Z117 : n0 ≤ T117.heap.size := Nat.le_trans Z103 K117.1
              refine Done.st (B := T117.setTop (mkF m 217 #[.val (.int x0), .val (.int x1), .val (.int x2), .val (.int x3), .val (.int x4), .val (.int x5), .val (.int cnt), .val (.int na), .val (.int nb), .val (.int nc), .val (.int nd), .val (.ref b1), .val (.ref b2), .val (.ref b4), .val (.ref b7), .val (.ref b11), .val (.long ((((0 : Int64) + (na.toInt64)) + (nb.toInt64)) + (nc.toInt64))), .second, .unset, .unset, .unset, .unset, .unset] [(.ref b103)])) (fun _ k => st117.trans k) ?_
              refine Done.st (B := T117.setTop (mkF m 219 #[.val (.int x0), .val (.int x1), .val (.int x2), .val (.int x3), .val (.int x4), .val (.int x5), .val (.int cnt), .val (.int na), .val (.int nb), .val (.int nc), .val (.int nd), .val (.ref b1), .val (.ref b2), .val (.ref b4), .val (.ref b7), .val (.ref b11), .val (.long ((((0 : Int64) + (na.toInt64)) + (nb.toInt64)) + (nc.toInt64))), .second, .val (.ref b103), .unset, .unset, .unset, .unset] [])) (fun _ k => XS.astore X117.here hx rfl (hb hby at_217) rfl rfl (l' := #[.val (.int x0), .val (.int x1), .val (.int x2), .val (.int x3), .val (.int x4), .val (.int x5), .val (.int cnt), .val (.int na), .val (.int nb), .val (.int nc), .val (.int nd), .val (.ref b1), .val (.ref b2), .val (.ref b4), .val (.ref b7), .val (.ref b11), .val (.long ((((0 : Int64) + (na.toInt64)) + (nb.toInt64)) + (nc.toInt64))), .second, .val (.ref b103), .unset, .unset, .unset, .unset]) rfl k) ?_
              refine Done.st (B := T117.setTop (mkF m 221 #[.val (.int x0), .val (.int x1), .val (.int x2), .val (.int x3), .val (.int x4), .val (.int x5), .val (.int cnt), .val (.int na), .val (.int nb), .val (.int nc), .val (.int nd), .val (.ref b1), .val (.ref b2), .val (.ref b4), .val (.ref b7), .val (.ref b11), .val (.long ((((0 : Int64) + (na.toInt64)) + (nb.toInt64)) + (nc.toInt64))), .second, .val (.ref b103), .unset, .unset, .unset, .unset] [(.ref b103)])) (fun _ k => XS.aload X117.here hx rfl (hb hby at_219) rfl rfl k) ?_
              obtain ⟨cq120, kq120, q120a, q120b, q120c⟩ := isOf hZ rfl f117_1
              obtain ⟨_, _, ⟨T120, L120, k120, n120⟩, -, X120, ⟨Lc120, hQ120, l120, y120, z120⟩, st120⟩ := X117.virtualBack hx (y := (⟨"com/example/percurso/percurso/suite/Suite", "inputCount", "()J"⟩ : MethodName)) (z := (⟨"com/example/percurso/percurso/suite/Suite", "inputCount", "()J"⟩ : MethodName)) hown (mvT hZ (hw _ (List.mem_of_getElem? (i := 49) rfl))) (mvT hZ (hw _ (List.mem_of_getElem? (i := 50) rfl))) (notFace_of_selects (args := #[]) (mvT hZ (hw _ (List.mem_of_getElem? (i := 52) rfl)))) (mvT hZ (hw _ (List.mem_of_getElem? (i := 52) rfl))) (mvT hZ (hw _ (List.mem_of_getElem? (i := 51) rfl))) (by decide) (backOf (W := 0) (rmIC_3 l Z a0 hw [] b103 u ku ca0 ca1 ca2 na nb nc T117.heap n0 Z117 f117_2 f117_3 f117_4 f117_5 f117_6) hZ (hw _ (List.mem_of_getElem? (i := 53) rfl)) (hw _ (List.mem_of_getElem? (i := 29) rfl)) (by decide) (by decide)) q120a q120c (g := (mkF m 221 #[.val (.int x0), .val (.int x1), .val (.int x2), .val (.int x3), .val (.int x4), .val (.int x5), .val (.int cnt), .val (.int na), .val (.int nb), .val (.int nc), .val (.int nd), .val (.ref b1), .val (.ref b2), .val (.ref b4), .val (.ref b7), .val (.ref b11), .val (.long ((((0 : Int64) + (na.toInt64)) + (nb.toInt64)) + (nc.toInt64))), .second, .val (.ref b103), .unset, .unset, .unset, .unset] [(.ref b103)])) rfl (by rw [hml]; rfl) (Steps.refl _) (argsL := []) (rest := []) (lenOf pd_9 rfl) rfl (by show 2 * 0 + _ ≤ _; exact Nat.le_of_eq rfl) (hb hby at_221) (fun _ _ => ⟨rfl, rfl, (by decide : 11 + 0 ≤ _), (by decide : 66 + 0 ≤ _)⟩)
              dsimp only [Pt.U, Pt.locs, Pt.cells, Pt.slots] at X120 l120 y120 z120 st120 hQ120
              subst l120 y120 z120
              obtain ⟨rfl, N120q, e120⟩ := hQ120
              have N120 := Fr.app N117 N120q
              refine Done.st (B := T120.setTop (mkF m 224 #[.val (.int x0), .val (.int x1), .val (.int x2), .val (.int x3), .val (.int x4), .val (.int x5), .val (.int cnt), .val (.int na), .val (.int nb), .val (.int nc), .val (.int nd), .val (.ref b1), .val (.ref b2), .val (.ref b4), .val (.ref b7), .val (.ref b11), .val (.long ((((0 : Int64) + (na.toInt64)) + (nb.toInt64)) + (nc.toInt64))), .second, .val (.ref b103), .unset, .unset, .unset, .unset] [(.long ((((0 : Int64) + (na.toInt64)) + (nb.toInt64)) + (nc.toInt64)))])) (fun _ k => st120.trans k) ?_
              refine Done.st (B := T120.setTop (mkF m 226 #[.val (.int x0), .val (.int x1), .val (.int x2), .val (.int x3), .val (.int x4), .val (.int x5), .val (.int cnt), .val (.int na), .val (.int nb), .val (.int nc), .val (.int nd), .val (.ref b1), .val (.ref b2), .val (.ref b4), .val (.ref b7), .val (.ref b11), .val (.long ((((0 : Int64) + (na.toInt64)) + (nb.toInt64)) + (nc.toInt64))), .second, .val (.ref b103), .val (.long ((((0 : Int64) + (na.toInt64)) + (nb.toInt64)) + (nc.toInt64))), .second, .unset, .unset] [])) (fun _ k => XS.lstore X120.here hx rfl (hb hby at_224) rfl (l' := #[.val (.int x0), .val (.int x1), .val (.int x2), .val (.int x3), .val (.int x4), .val (.int x5), .val (.int cnt), .val (.int na), .val (.int nb), .val (.int nc), .val (.int nd), .val (.ref b1), .val (.ref b2), .val (.ref b4), .val (.ref b7), .val (.ref b11), .val (.long ((((0 : Int64) + (na.toInt64)) + (nb.toInt64)) + (nc.toInt64))), .second, .val (.ref b103), .val (.long ((((0 : Int64) + (na.toInt64)) + (nb.toInt64)) + (nc.toInt64))), .second, .unset, .unset]) rfl k) ?_
              refine Done.st (B := T120.setTop (mkF m 228 #[.val (.int x0), .val (.int x1), .val (.int x2), .val (.int x3), .val (.int x4), .val (.int x5), .val (.int cnt), .val (.int na), .val (.int nb), .val (.int nc), .val (.int nd), .val (.ref b1), .val (.ref b2), .val (.ref b4), .val (.ref b7), .val (.ref b11), .val (.long ((((0 : Int64) + (na.toInt64)) + (nb.toInt64)) + (nc.toInt64))), .second, .val (.ref b103), .val (.long ((((0 : Int64) + (na.toInt64)) + (nb.toInt64)) + (nc.toInt64))), .second, .unset, .unset] [(.ref b103)])) (fun _ k => XS.aload X120.here hx rfl (hb hby at_226) rfl rfl k) ?_
              obtain ⟨cq121, kq121, q121a, q121b, q121c⟩ := isOf hZ e120 f117_1
              obtain ⟨_, _, ⟨T121, L121, k121, n121⟩, -, X121, ⟨Lc121, hQ121, l121, y121, z121⟩, st121⟩ := X120.virtualBack hx (y := (⟨"com/example/percurso/percurso/suite/Suite", "inputCount", "()J"⟩ : MethodName)) (z := (⟨"com/example/percurso/percurso/suite/Suite", "inputCount", "()J"⟩ : MethodName)) hown (mvT hZ (hw _ (List.mem_of_getElem? (i := 49) rfl))) (mvT hZ (hw _ (List.mem_of_getElem? (i := 50) rfl))) (notFace_of_selects (args := #[]) (mvT hZ (hw _ (List.mem_of_getElem? (i := 52) rfl)))) (mvT hZ (hw _ (List.mem_of_getElem? (i := 52) rfl))) (mvT hZ (hw _ (List.mem_of_getElem? (i := 51) rfl))) (by decide) (backOf (W := 0) (rmIC_3 l Z a0 hw [] b103 u ku ca0 ca1 ca2 na nb nc T117.heap n0 Z117 f117_2 f117_3 f117_4 f117_5 f117_6) hZ (hw _ (List.mem_of_getElem? (i := 53) rfl)) (hw _ (List.mem_of_getElem? (i := 29) rfl)) (by decide) (by decide)) q121a q121c (g := (mkF m 228 #[.val (.int x0), .val (.int x1), .val (.int x2), .val (.int x3), .val (.int x4), .val (.int x5), .val (.int cnt), .val (.int na), .val (.int nb), .val (.int nc), .val (.int nd), .val (.ref b1), .val (.ref b2), .val (.ref b4), .val (.ref b7), .val (.ref b11), .val (.long ((((0 : Int64) + (na.toInt64)) + (nb.toInt64)) + (nc.toInt64))), .second, .val (.ref b103), .val (.long ((((0 : Int64) + (na.toInt64)) + (nb.toInt64)) + (nc.toInt64))), .second, .unset, .unset] [(.ref b103)])) rfl (by rw [hml]; rfl) (Steps.refl _) (argsL := []) (rest := []) (lenOf pd_9 rfl) rfl (by show 2 * 0 + _ ≤ _; exact Nat.le_of_eq rfl) (hb hby at_228) (fun _ _ => ⟨rfl, e120, (by decide : 11 + 0 ≤ _), (by decide : 66 + 0 ≤ _)⟩)
              dsimp only [Pt.U, Pt.locs, Pt.cells, Pt.slots] at X121 l121 y121 z121 st121 hQ121
              subst l121 y121 z121
              obtain ⟨rfl, N121q, e121⟩ := hQ121
              have N121 := Fr.app N120 N121q
              refine Done.st (B := T121.setTop (mkF m 231 #[.val (.int x0), .val (.int x1), .val (.int x2), .val (.int x3), .val (.int x4), .val (.int x5), .val (.int cnt), .val (.int na), .val (.int nb), .val (.int nc), .val (.int nd), .val (.ref b1), .val (.ref b2), .val (.ref b4), .val (.ref b7), .val (.ref b11), .val (.long ((((0 : Int64) + (na.toInt64)) + (nb.toInt64)) + (nc.toInt64))), .second, .val (.ref b103), .val (.long ((((0 : Int64) + (na.toInt64)) + (nb.toInt64)) + (nc.toInt64))), .second, .unset, .unset] [(.long ((((0 : Int64) + (na.toInt64)) + (nb.toInt64)) + (nc.toInt64)))])) (fun _ k => st121.trans k) ?_
              refine Done.st (B := T121.setTop (mkF m 233 #[.val (.int x0), .val (.int x1), .val (.int x2), .val (.int x3), .val (.int x4), .val (.int x5), .val (.int cnt), .val (.int na), .val (.int nb), .val (.int nc), .val (.int nd), .val (.ref b1), .val (.ref b2), .val (.ref b4), .val (.ref b7), .val (.ref b11), .val (.long ((((0 : Int64) + (na.toInt64)) + (nb.toInt64)) + (nc.toInt64))), .second, .val (.ref b103), .val (.long ((((0 : Int64) + (na.toInt64)) + (nb.toInt64)) + (nc.toInt64))), .second, .val (.long ((((0 : Int64) + (na.toInt64)) + (nb.toInt64)) + (nc.toInt64))), .second] [])) (fun _ k => XS.lstore X121.here hx rfl (hb hby at_231) rfl (l' := #[.val (.int x0), .val (.int x1), .val (.int x2), .val (.int x3), .val (.int x4), .val (.int x5), .val (.int cnt), .val (.int na), .val (.int nb), .val (.int nc), .val (.int nd), .val (.ref b1), .val (.ref b2), .val (.ref b4), .val (.ref b7), .val (.ref b11), .val (.long ((((0 : Int64) + (na.toInt64)) + (nb.toInt64)) + (nc.toInt64))), .second, .val (.ref b103), .val (.long ((((0 : Int64) + (na.toInt64)) + (nb.toInt64)) + (nc.toInt64))), .second, .val (.long ((((0 : Int64) + (na.toInt64)) + (nb.toInt64)) + (nc.toInt64))), .second]) rfl k) ?_
              refine Done.st (B := T121.setTop (mkF m 235 #[.val (.int x0), .val (.int x1), .val (.int x2), .val (.int x3), .val (.int x4), .val (.int x5), .val (.int cnt), .val (.int na), .val (.int nb), .val (.int nc), .val (.int nd), .val (.ref b1), .val (.ref b2), .val (.ref b4), .val (.ref b7), .val (.ref b11), .val (.long ((((0 : Int64) + (na.toInt64)) + (nb.toInt64)) + (nc.toInt64))), .second, .val (.ref b103), .val (.long ((((0 : Int64) + (na.toInt64)) + (nb.toInt64)) + (nc.toInt64))), .second, .val (.long ((((0 : Int64) + (na.toInt64)) + (nb.toInt64)) + (nc.toInt64))), .second] [(.long ((((0 : Int64) + (na.toInt64)) + (nb.toInt64)) + (nc.toInt64)))])) (fun _ k => XS.lload X121.here hx rfl (hb hby at_233) rfl k) ?_
              refine Done.st (B := T121.setTop (mkF m 237 #[.val (.int x0), .val (.int x1), .val (.int x2), .val (.int x3), .val (.int x4), .val (.int x5), .val (.int cnt), .val (.int na), .val (.int nb), .val (.int nc), .val (.int nd), .val (.ref b1), .val (.ref b2), .val (.ref b4), .val (.ref b7), .val (.ref b11), .val (.long ((((0 : Int64) + (na.toInt64)) + (nb.toInt64)) + (nc.toInt64))), .second, .val (.ref b103), .val (.long ((((0 : Int64) + (na.toInt64)) + (nb.toInt64)) + (nc.toInt64))), .second, .val (.long ((((0 : Int64) + (na.toInt64)) + (nb.toInt64)) + (nc.toInt64))), .second] [(.long ((((0 : Int64) + (na.toInt64)) + (nb.toInt64)) + (nc.toInt64))), (.long ((((0 : Int64) + (na.toInt64)) + (nb.toInt64)) + (nc.toInt64)))])) (fun _ k => XS.lload X121.here hx rfl (hb hby at_235) rfl k) ?_
              refine Done.st (B := T121.setTop (mkF m 238 #[.val (.int x0), .val (.int x1), .val (.int x2), .val (.int x3), .val (.int x4), .val (.int x5), .val (.int cnt), .val (.int na), .val (.int nb), .val (.int nc), .val (.int nd), .val (.ref b1), .val (.ref b2), .val (.ref b4), .val (.ref b7), .val (.ref b11), .val (.long ((((0 : Int64) + (na.toInt64)) + (nb.toInt64)) + (nc.toInt64))), .second, .val (.ref b103), .val (.long ((((0 : Int64) + (na.toInt64)) + (nb.toInt64)) + (nc.toInt64))), .second, .val (.long ((((0 : Int64) + (na.toInt64)) + (nb.toInt64)) + (nc.toInt64))), .second] [(.int (lcmpW ((((0 : Int64) + (na.toInt64)) + (nb.toInt64)) + (nc.toInt64)) ((((0 : Int64) + (na.toInt64)) + (nb.toInt64)) + (nc.toInt64))))])) (fun _ k => XS.lcmp X121.here hx rfl (hb hby at_237) rfl k) ?_
              refine Done.st (B := T121.setTop (mkF m 241 #[.val (.int x0), .val (.int x1), .val (.int x2), .val (.int x3), .val (.int x4), .val (.int x5), .val (.int cnt), .val (.int na), .val (.int nb), .val (.int nc), .val (.int nd), .val (.ref b1), .val (.ref b2), .val (.ref b4), .val (.ref b7), .val (.ref b11), .val (.long ((((0 : Int64) + (na.toInt64)) + (nb.toInt64)) + (nc.toInt64))), .second, .val (.ref b103), .val (.long ((((0 : Int64) + (na.toInt64)) + (nb.toInt64)) + (nc.toInt64))), .second, .val (.long ((((0 : Int64) + (na.toInt64)) + (nb.toInt64)) + (nc.toInt64))), .second] [])) (fun _ k => XS.ifNo X121.here hx rfl (hb hby at_238) rfl ((if0 _ _).trans (teq ((lw_eq _ _).mpr (rfl : ((((0 : Int64) + (na.toInt64)) + (nb.toInt64)) + (nc.toInt64)) = ((((0 : Int64) + (na.toInt64)) + (nb.toInt64)) + (nc.toInt64))))).2) k) ?_
              refine Done.st (B := T121.setTop (mkF m 243 #[.val (.int x0), .val (.int x1), .val (.int x2), .val (.int x3), .val (.int x4), .val (.int x5), .val (.int cnt), .val (.int na), .val (.int nb), .val (.int nc), .val (.int nd), .val (.ref b1), .val (.ref b2), .val (.ref b4), .val (.ref b7), .val (.ref b11), .val (.long ((((0 : Int64) + (na.toInt64)) + (nb.toInt64)) + (nc.toInt64))), .second, .val (.ref b103), .val (.long ((((0 : Int64) + (na.toInt64)) + (nb.toInt64)) + (nc.toInt64))), .second, .val (.long ((((0 : Int64) + (na.toInt64)) + (nb.toInt64)) + (nc.toInt64))), .second] [(.long ((((0 : Int64) + (na.toInt64)) + (nb.toInt64)) + (nc.toInt64)))])) (fun _ k => XS.lload X121.here hx rfl (hb hby at_241) rfl k) ?_
              refine Done.st (B := T121.setTop (mkF m 245 #[.val (.int x0), .val (.int x1), .val (.int x2), .val (.int x3), .val (.int x4), .val (.int x5), .val (.int cnt), .val (.int na), .val (.int nb), .val (.int nc), .val (.int nd), .val (.ref b1), .val (.ref b2), .val (.ref b4), .val (.ref b7), .val (.ref b11), .val (.long ((((0 : Int64) + (na.toInt64)) + (nb.toInt64)) + (nc.toInt64))), .second, .val (.ref b103), .val (.long ((((0 : Int64) + (na.toInt64)) + (nb.toInt64)) + (nc.toInt64))), .second, .val (.long ((((0 : Int64) + (na.toInt64)) + (nb.toInt64)) + (nc.toInt64))), .second] [(.long ((((0 : Int64) + (na.toInt64)) + (nb.toInt64)) + (nc.toInt64))), (.long ((((0 : Int64) + (na.toInt64)) + (nb.toInt64)) + (nc.toInt64)))])) (fun _ k => XS.lload X121.here hx rfl (hb hby at_243) rfl k) ?_
              refine Done.st (B := T121.setTop (mkF m 246 #[.val (.int x0), .val (.int x1), .val (.int x2), .val (.int x3), .val (.int x4), .val (.int x5), .val (.int cnt), .val (.int na), .val (.int nb), .val (.int nc), .val (.int nd), .val (.ref b1), .val (.ref b2), .val (.ref b4), .val (.ref b7), .val (.ref b11), .val (.long ((((0 : Int64) + (na.toInt64)) + (nb.toInt64)) + (nc.toInt64))), .second, .val (.ref b103), .val (.long ((((0 : Int64) + (na.toInt64)) + (nb.toInt64)) + (nc.toInt64))), .second, .val (.long ((((0 : Int64) + (na.toInt64)) + (nb.toInt64)) + (nc.toInt64))), .second] [(.int (lcmpW ((((0 : Int64) + (na.toInt64)) + (nb.toInt64)) + (nc.toInt64)) ((((0 : Int64) + (na.toInt64)) + (nb.toInt64)) + (nc.toInt64))))])) (fun _ k => XS.lcmp X121.here hx rfl (hb hby at_245) rfl k) ?_
              refine Done.st (B := T121.setTop (mkF m 249 #[.val (.int x0), .val (.int x1), .val (.int x2), .val (.int x3), .val (.int x4), .val (.int x5), .val (.int cnt), .val (.int na), .val (.int nb), .val (.int nc), .val (.int nd), .val (.ref b1), .val (.ref b2), .val (.ref b4), .val (.ref b7), .val (.ref b11), .val (.long ((((0 : Int64) + (na.toInt64)) + (nb.toInt64)) + (nc.toInt64))), .second, .val (.ref b103), .val (.long ((((0 : Int64) + (na.toInt64)) + (nb.toInt64)) + (nc.toInt64))), .second, .val (.long ((((0 : Int64) + (na.toInt64)) + (nb.toInt64)) + (nc.toInt64))), .second] [])) (fun _ k => XS.ifNo X121.here hx rfl (hb hby at_246) rfl ((if0 _ _).trans (teq ((lw_eq _ _).mpr (rfl : ((((0 : Int64) + (na.toInt64)) + (nb.toInt64)) + (nc.toInt64)) = ((((0 : Int64) + (na.toInt64)) + (nb.toInt64)) + (nc.toInt64))))).2) k) ?_
              refine Done.st (B := T121.setTop (mkF m 250 #[.val (.int x0), .val (.int x1), .val (.int x2), .val (.int x3), .val (.int x4), .val (.int x5), .val (.int cnt), .val (.int na), .val (.int nb), .val (.int nc), .val (.int nd), .val (.ref b1), .val (.ref b2), .val (.ref b4), .val (.ref b7), .val (.ref b11), .val (.long ((((0 : Int64) + (na.toInt64)) + (nb.toInt64)) + (nc.toInt64))), .second, .val (.ref b103), .val (.long ((((0 : Int64) + (na.toInt64)) + (nb.toInt64)) + (nc.toInt64))), .second, .val (.long ((((0 : Int64) + (na.toInt64)) + (nb.toInt64)) + (nc.toInt64))), .second] [(.int (1 : Int32))])) (fun _ k => XS.iconst X121.here hx rfl (hb hby at_249) k) ?_
              refine Done.st (B := T121.setTop (mkF m 254 #[.val (.int x0), .val (.int x1), .val (.int x2), .val (.int x3), .val (.int x4), .val (.int x5), .val (.int cnt), .val (.int na), .val (.int nb), .val (.int nc), .val (.int nd), .val (.ref b1), .val (.ref b2), .val (.ref b4), .val (.ref b7), .val (.ref b11), .val (.long ((((0 : Int64) + (na.toInt64)) + (nb.toInt64)) + (nc.toInt64))), .second, .val (.ref b103), .val (.long ((((0 : Int64) + (na.toInt64)) + (nb.toInt64)) + (nc.toInt64))), .second, .val (.long ((((0 : Int64) + (na.toInt64)) + (nb.toInt64)) + (nc.toInt64))), .second] [(.int (1 : Int32))])) (fun _ k => XS.goto X121.here hx rfl (pc0 := 250) (pc' := 254) rfl (hb hby at_250) (by decide) (by decide) k) ?_
              obtain ⟨fs, hr, hrun, hended, hW, hsame⟩ := X121.leave (v := some (.int (1 : Int32))) (hlocks := hlk) (fun h => by rw [Bd.returns] at h; cases h)
              refine Done.fin (retN X121 hx (t := .boolean) Bd.returns (by simp) (hb hby at_254) hr) hrun hended ⟨_, _, rfl, ?_, ⟨_, rfl⟩, hW, hsame.mono (by decide) (by decide)⟩
              show Qrm0 Z x0 x1 x2 x3 x4 x5 w_D kw_D h0 n0 _ T121.heap _
              rw [e121]
              exact ⟨rfl, N121⟩
            · refine Done.st (B := T13.setTop (mkF m 122 #[.val (.int x0), .val (.int x1), .val (.int x2), .val (.int x3), .val (.int x4), .val (.int x5), .val (.int cnt), .val (.int na), .val (.int nb), .val (.int nc), .val (.int nd), .val (.ref b1), .val (.ref b2), .val (.ref b4), .val (.ref b7), .val (.ref b11), .val (.long (0 : Int64)), .second, .unset, .unset, .unset, .unset, .unset] [(.int cnt)])) (fun _ k => XS.iload X13.here hx rfl (hb hby at_120) rfl k) ?_
              refine Done.st (B := T13.setTop (mkF m 123 #[.val (.int x0), .val (.int x1), .val (.int x2), .val (.int x3), .val (.int x4), .val (.int x5), .val (.int cnt), .val (.int na), .val (.int nb), .val (.int nc), .val (.int nd), .val (.ref b1), .val (.ref b2), .val (.ref b4), .val (.ref b7), .val (.ref b11), .val (.long (0 : Int64)), .second, .unset, .unset, .unset, .unset, .unset] [(.int (1 : Int32)), (.int cnt)])) (fun _ k => XS.iconst X13.here hx rfl (hb hby at_122) k) ?_
              refine Done.st (B := T13.setTop (mkF m 126 #[.val (.int x0), .val (.int x1), .val (.int x2), .val (.int x3), .val (.int x4), .val (.int x5), .val (.int cnt), .val (.int na), .val (.int nb), .val (.int nc), .val (.int nd), .val (.ref b1), .val (.ref b2), .val (.ref b4), .val (.ref b7), .val (.ref b11), .val (.long (0 : Int64)), .second, .unset, .unset, .unset, .unset, .unset] [])) (fun _ k => XS.icmpNo X13.here hx rfl (hb hby at_123) rfl (flt (own_ge hk).1).1 k) ?_
              refine Done.st (B := T13.setTop (mkF m 128 #[.val (.int x0), .val (.int x1), .val (.int x2), .val (.int x3), .val (.int x4), .val (.int x5), .val (.int cnt), .val (.int na), .val (.int nb), .val (.int nc), .val (.int nd), .val (.ref b1), .val (.ref b2), .val (.ref b4), .val (.ref b7), .val (.ref b11), .val (.long (0 : Int64)), .second, .unset, .unset, .unset, .unset, .unset] [(.ref b11)])) (fun _ k => XS.aload X13.here hx rfl (hb hby at_126) rfl rfl k) ?_
              refine Done.st (B := T13.setTop (mkF m 130 #[.val (.int x0), .val (.int x1), .val (.int x2), .val (.int x3), .val (.int x4), .val (.int x5), .val (.int cnt), .val (.int na), .val (.int nb), .val (.int nc), .val (.int nd), .val (.ref b1), .val (.ref b2), .val (.ref b4), .val (.ref b7), .val (.ref b11), .val (.long (0 : Int64)), .second, .unset, .unset, .unset, .unset, .unset] [(.ref b1), (.ref b11)])) (fun _ k => XS.aload X13.here hx rfl (hb hby at_128) rfl rfl k) ?_
              have c123 := (own_sta_keep c12 K13 (allS (own_ns_exa A11) all0))
              have c124 := ((fj108_1.ext E11).keep K13 (ninS ne_w_D_b11 nin0))
              have c125 := ((Exa.ext E11 fj108_3).keep K13)
              obtain ⟨cq126, kq126, q126a, q126b, q126c⟩ := isOf hZ rfl f13_0
              obtain ⟨_, _, ⟨T126, L126, k126, n126⟩, -, X126, ⟨Lc126, hQ126, l126, y126, z126⟩, st126⟩ := X13.virtualBack hx (y := (⟨"java/util/ArrayList", "add", "(Ljava/lang/Object;)Z"⟩ : MethodName)) (z := (⟨"java/util/ArrayList", "add", "(Ljava/lang/Object;)Z"⟩ : MethodName)) hown (mvT hZ (hw _ (List.mem_of_getElem? (i := 54) rfl))) (mvT hZ (hw _ (List.mem_of_getElem? (i := 55) rfl))) (notFace_of_selects (args := #[]) (mvT hZ (hw _ (List.mem_of_getElem? (i := 57) rfl)))) (mvT hZ (hw _ (List.mem_of_getElem? (i := 57) rfl))) (mvT hZ (hw _ (List.mem_of_getElem? (i := 56) rfl))) (by decide) (backOf (W := 0) (rmA1_0 l Z a0 hw [] b11 b1 (0 : Int32) w_D kw_D T13.heap n0 Z13 f13_0 f13_1 f13_2 f13_3 ge_b11 c123 c124 (Ne.symm ne_w_D_b11) c125) hZ (hw _ (List.mem_of_getElem? (i := 58) rfl)) (hw _ (List.mem_of_getElem? (i := 3) rfl)) (by decide) (by decide)) q126a q126c (g := (mkF m 130 #[.val (.int x0), .val (.int x1), .val (.int x2), .val (.int x3), .val (.int x4), .val (.int x5), .val (.int cnt), .val (.int na), .val (.int nb), .val (.int nc), .val (.int nd), .val (.ref b1), .val (.ref b2), .val (.ref b4), .val (.ref b7), .val (.ref b11), .val (.long (0 : Int64)), .second, .unset, .unset, .unset, .unset, .unset] [(.ref b1), (.ref b11)])) rfl (by rw [hml]; rfl) (Steps.refl _) (argsL := [(.ref b1)]) (rest := []) (lenOf pd_10 rfl) rfl (by show 2 * 0 + _ ≤ _; exact Nat.le_of_eq rfl) (hb hby at_130) (fun _ _ => ⟨rfl, rfl, (by decide : 5 + 1 ≤ _), (by decide : 31 + 10 ≤ _)⟩)
              dsimp only [Pt.U, Pt.locs, Pt.cells, Pt.slots] at X126 l126 y126 z126 st126 hQ126
              subst l126 y126 z126
              have c127 := ((fj108_2.ext E11).keep K13 (ninS ne_b1_b11 nin0))
              have c128 := ((fj108_4.ext E11).keep K13 (ninS ne_b2_b11 nin0))
              have c129 := ((fj108_6.ext E11).keep K13 (ninS ne_b4_b11 nin0))
              have c130 := ((fj108_8.ext E11).keep K13 (ninS ne_b7_b11 nin0))
              obtain ⟨g, kg, rfl, N126q, K126, f126_0, O_g, f126_2, f126_3, f126_4, f126_5, f126_6⟩ := hQ126
              have N126 := Fr.app N13 N126q
              have ne_w_D_g : w_D ≠ g := Nat.ne_of_lt (Nat.lt_of_lt_of_le c124.lt f126_0)
              have ne_b1_g : b1 ≠ g := Nat.ne_of_lt (Nat.lt_of_lt_of_le c127.lt f126_0)
              have ne_b2_g : b2 ≠ g := Nat.ne_of_lt (Nat.lt_of_lt_of_le c128.lt f126_0)
              have ne_b4_g : b4 ≠ g := Nat.ne_of_lt (Nat.lt_of_lt_of_le c129.lt f126_0)
              have ne_b7_g : b7 ≠ g := Nat.ne_of_lt (Nat.lt_of_lt_of_le c130.lt f126_0)
              have ne_b11_g : b11 ≠ g := Nat.ne_of_lt (Nat.lt_of_lt_of_le f13_0.lt f126_0)
              have ge_g : n0 ≤ g := Nat.le_trans Z13 f126_0
              have Z126 : n0 ≤ T126.heap.size := Nat.le_trans Z13 K126.1
              refine Done.st (B := T126.setTop (mkF m 133 #[.val (.int x0), .val (.int x1), .val (.int x2), .val (.int x3), .val (.int x4), .val (.int x5), .val (.int cnt), .val (.int na), .val (.int nb), .val (.int nc), .val (.int nd), .val (.ref b1), .val (.ref b2), .val (.ref b4), .val (.ref b7), .val (.ref b11), .val (.long (0 : Int64)), .second, .unset, .unset, .unset, .unset, .unset] [(.int (1 : Int32))])) (fun _ k => st126.trans k) ?_
              refine Done.st (B := T126.setTop (mkF m 134 #[.val (.int x0), .val (.int x1), .val (.int x2), .val (.int x3), .val (.int x4), .val (.int x5), .val (.int cnt), .val (.int na), .val (.int nb), .val (.int nc), .val (.int nd), .val (.ref b1), .val (.ref b2), .val (.ref b4), .val (.ref b7), .val (.ref b11), .val (.long (0 : Int64)), .second, .unset, .unset, .unset, .unset, .unset] [])) (fun _ k => XS.pop X126.here hx rfl (hb hby at_133) rfl rfl k) ?_
              refine Done.st (B := T126.setTop (mkF m 136 #[.val (.int x0), .val (.int x1), .val (.int x2), .val (.int x3), .val (.int x4), .val (.int x5), .val (.int cnt), .val (.int na), .val (.int nb), .val (.int nc), .val (.int nd), .val (.ref b1), .val (.ref b2), .val (.ref b4), .val (.ref b7), .val (.ref b11), .val (.long (0 : Int64)), .second, .unset, .unset, .unset, .unset, .unset] [(.long (0 : Int64))])) (fun _ k => XS.lload X126.here hx rfl (hb hby at_134) rfl k) ?_
              refine Done.st (B := T126.setTop (mkF m 138 #[.val (.int x0), .val (.int x1), .val (.int x2), .val (.int x3), .val (.int x4), .val (.int x5), .val (.int cnt), .val (.int na), .val (.int nb), .val (.int nc), .val (.int nd), .val (.ref b1), .val (.ref b2), .val (.ref b4), .val (.ref b7), .val (.ref b11), .val (.long (0 : Int64)), .second, .unset, .unset, .unset, .unset, .unset] [(.int na), (.long (0 : Int64))])) (fun _ k => XS.iload X126.here hx rfl (hb hby at_136) rfl k) ?_
              refine Done.st (B := T126.setTop (mkF m 139 #[.val (.int x0), .val (.int x1), .val (.int x2), .val (.int x3), .val (.int x4), .val (.int x5), .val (.int cnt), .val (.int na), .val (.int nb), .val (.int nc), .val (.int nd), .val (.ref b1), .val (.ref b2), .val (.ref b4), .val (.ref b7), .val (.ref b11), .val (.long (0 : Int64)), .second, .unset, .unset, .unset, .unset, .unset] [(.long (na.toInt64)), (.long (0 : Int64))])) (fun _ k => XS.i2l X126.here hx rfl (hb hby at_138) rfl k) ?_
              refine Done.st (B := T126.setTop (mkF m 140 #[.val (.int x0), .val (.int x1), .val (.int x2), .val (.int x3), .val (.int x4), .val (.int x5), .val (.int cnt), .val (.int na), .val (.int nb), .val (.int nc), .val (.int nd), .val (.ref b1), .val (.ref b2), .val (.ref b4), .val (.ref b7), .val (.ref b11), .val (.long (0 : Int64)), .second, .unset, .unset, .unset, .unset, .unset] [(.long ((0 : Int64) + (na.toInt64)))])) (fun _ k => XS.ladd X126.here hx rfl (hb hby at_139) rfl k) ?_
              refine Done.st (B := T126.setTop (mkF m 142 #[.val (.int x0), .val (.int x1), .val (.int x2), .val (.int x3), .val (.int x4), .val (.int x5), .val (.int cnt), .val (.int na), .val (.int nb), .val (.int nc), .val (.int nd), .val (.ref b1), .val (.ref b2), .val (.ref b4), .val (.ref b7), .val (.ref b11), .val (.long ((0 : Int64) + (na.toInt64))), .second, .unset, .unset, .unset, .unset, .unset] [])) (fun _ k => XS.lstore X126.here hx rfl (hb hby at_140) rfl (l' := #[.val (.int x0), .val (.int x1), .val (.int x2), .val (.int x3), .val (.int x4), .val (.int x5), .val (.int cnt), .val (.int na), .val (.int nb), .val (.int nc), .val (.int nd), .val (.ref b1), .val (.ref b2), .val (.ref b4), .val (.ref b7), .val (.ref b11), .val (.long ((0 : Int64) + (na.toInt64))), .second, .unset, .unset, .unset, .unset, .unset]) rfl k) ?_
              refine Done.st (B := T126.setTop (mkF m 144 #[.val (.int x0), .val (.int x1), .val (.int x2), .val (.int x3), .val (.int x4), .val (.int x5), .val (.int cnt), .val (.int na), .val (.int nb), .val (.int nc), .val (.int nd), .val (.ref b1), .val (.ref b2), .val (.ref b4), .val (.ref b7), .val (.ref b11), .val (.long ((0 : Int64) + (na.toInt64))), .second, .unset, .unset, .unset, .unset, .unset] [(.int cnt)])) (fun _ k => XS.iload X126.here hx rfl (hb hby at_142) rfl k) ?_
              refine Done.st (B := T126.setTop (mkF m 145 #[.val (.int x0), .val (.int x1), .val (.int x2), .val (.int x3), .val (.int x4), .val (.int x5), .val (.int cnt), .val (.int na), .val (.int nb), .val (.int nc), .val (.int nd), .val (.ref b1), .val (.ref b2), .val (.ref b4), .val (.ref b7), .val (.ref b11), .val (.long ((0 : Int64) + (na.toInt64))), .second, .unset, .unset, .unset, .unset, .unset] [(.int (2 : Int32)), (.int cnt)])) (fun _ k => XS.iconst X126.here hx rfl (hb hby at_144) k) ?_
              refine Done.st (B := T126.setTop (mkF m 148 #[.val (.int x0), .val (.int x1), .val (.int x2), .val (.int x3), .val (.int x4), .val (.int x5), .val (.int cnt), .val (.int na), .val (.int nb), .val (.int nc), .val (.int nd), .val (.ref b1), .val (.ref b2), .val (.ref b4), .val (.ref b7), .val (.ref b11), .val (.long ((0 : Int64) + (na.toInt64))), .second, .unset, .unset, .unset, .unset, .unset] [])) (fun _ k => XS.icmpNo X126.here hx rfl (hb hby at_145) rfl (flt (own_ge hk).2.1).1 k) ?_
              refine Done.st (B := T126.setTop (mkF m 150 #[.val (.int x0), .val (.int x1), .val (.int x2), .val (.int x3), .val (.int x4), .val (.int x5), .val (.int cnt), .val (.int na), .val (.int nb), .val (.int nc), .val (.int nd), .val (.ref b1), .val (.ref b2), .val (.ref b4), .val (.ref b7), .val (.ref b11), .val (.long ((0 : Int64) + (na.toInt64))), .second, .unset, .unset, .unset, .unset, .unset] [(.ref b11)])) (fun _ k => XS.aload X126.here hx rfl (hb hby at_148) rfl rfl k) ?_
              refine Done.st (B := T126.setTop (mkF m 152 #[.val (.int x0), .val (.int x1), .val (.int x2), .val (.int x3), .val (.int x4), .val (.int x5), .val (.int cnt), .val (.int na), .val (.int nb), .val (.int nc), .val (.int nd), .val (.ref b1), .val (.ref b2), .val (.ref b4), .val (.ref b7), .val (.ref b11), .val (.long ((0 : Int64) + (na.toInt64))), .second, .unset, .unset, .unset, .unset, .unset] [(.ref b2), (.ref b11)])) (fun _ k => XS.aload X126.here hx rfl (hb hby at_150) rfl rfl k) ?_
              have c131 := (((Exa.ext E11 fj108_5).keep K13).keep K126)
              obtain ⟨cq132, kq132, q132a, q132b, q132c⟩ := isOf hZ rfl f126_2
              obtain ⟨_, _, ⟨T132, L132, k132, n132⟩, -, X132, ⟨Lc132, hQ132, l132, y132, z132⟩, st132⟩ := X126.virtualBack hx (y := (⟨"java/util/ArrayList", "add", "(Ljava/lang/Object;)Z"⟩ : MethodName)) (z := (⟨"java/util/ArrayList", "add", "(Ljava/lang/Object;)Z"⟩ : MethodName)) hown (mvT hZ (hw _ (List.mem_of_getElem? (i := 54) rfl))) (mvT hZ (hw _ (List.mem_of_getElem? (i := 55) rfl))) (notFace_of_selects (args := #[]) (mvT hZ (hw _ (List.mem_of_getElem? (i := 57) rfl)))) (mvT hZ (hw _ (List.mem_of_getElem? (i := 57) rfl))) (mvT hZ (hw _ (List.mem_of_getElem? (i := 56) rfl))) (by decide) (backOf (W := 0) (rmA1_1 l Z a0 hw [] b11 b2 g ((0 : Int32) + (1 : Int32)) kg b1 T126.heap n0 Z126 f126_2 f126_3 f126_4 f126_5 ge_b11 f126_6 O_g ge_g ne_b11_g c131) hZ (hw _ (List.mem_of_getElem? (i := 58) rfl)) (hw _ (List.mem_of_getElem? (i := 3) rfl)) (by decide) (by decide)) q132a q132c (g := (mkF m 152 #[.val (.int x0), .val (.int x1), .val (.int x2), .val (.int x3), .val (.int x4), .val (.int x5), .val (.int cnt), .val (.int na), .val (.int nb), .val (.int nc), .val (.int nd), .val (.ref b1), .val (.ref b2), .val (.ref b4), .val (.ref b7), .val (.ref b11), .val (.long ((0 : Int64) + (na.toInt64))), .second, .unset, .unset, .unset, .unset, .unset] [(.ref b2), (.ref b11)])) rfl (by rw [hml]; rfl) (Steps.refl _) (argsL := [(.ref b2)]) (rest := []) (lenOf pd_10 rfl) rfl (by show 2 * 0 + _ ≤ _; exact Nat.le_of_eq rfl) (hb hby at_152) (fun _ _ => ⟨rfl, rfl, (by decide : 6 + 0 ≤ _), (by decide : 41 + 0 ≤ _)⟩)
              dsimp only [Pt.U, Pt.locs, Pt.cells, Pt.slots] at X132 l132 y132 z132 st132 hQ132
              subst l132 y132 z132
              obtain ⟨rfl, N132q, K132, f132_0, f132_1, f132_2, f132_3, f132_4⟩ := hQ132
              have N132 := Fr.app N126 N132q
              have Z132 : n0 ≤ T132.heap.size := Nat.le_trans Z126 K132.1
              refine Done.st (B := T132.setTop (mkF m 155 #[.val (.int x0), .val (.int x1), .val (.int x2), .val (.int x3), .val (.int x4), .val (.int x5), .val (.int cnt), .val (.int na), .val (.int nb), .val (.int nc), .val (.int nd), .val (.ref b1), .val (.ref b2), .val (.ref b4), .val (.ref b7), .val (.ref b11), .val (.long ((0 : Int64) + (na.toInt64))), .second, .unset, .unset, .unset, .unset, .unset] [(.int (1 : Int32))])) (fun _ k => st132.trans k) ?_
              refine Done.st (B := T132.setTop (mkF m 156 #[.val (.int x0), .val (.int x1), .val (.int x2), .val (.int x3), .val (.int x4), .val (.int x5), .val (.int cnt), .val (.int na), .val (.int nb), .val (.int nc), .val (.int nd), .val (.ref b1), .val (.ref b2), .val (.ref b4), .val (.ref b7), .val (.ref b11), .val (.long ((0 : Int64) + (na.toInt64))), .second, .unset, .unset, .unset, .unset, .unset] [])) (fun _ k => XS.pop X132.here hx rfl (hb hby at_155) rfl rfl k) ?_
              refine Done.st (B := T132.setTop (mkF m 158 #[.val (.int x0), .val (.int x1), .val (.int x2), .val (.int x3), .val (.int x4), .val (.int x5), .val (.int cnt), .val (.int na), .val (.int nb), .val (.int nc), .val (.int nd), .val (.ref b1), .val (.ref b2), .val (.ref b4), .val (.ref b7), .val (.ref b11), .val (.long ((0 : Int64) + (na.toInt64))), .second, .unset, .unset, .unset, .unset, .unset] [(.long ((0 : Int64) + (na.toInt64)))])) (fun _ k => XS.lload X132.here hx rfl (hb hby at_156) rfl k) ?_
              refine Done.st (B := T132.setTop (mkF m 160 #[.val (.int x0), .val (.int x1), .val (.int x2), .val (.int x3), .val (.int x4), .val (.int x5), .val (.int cnt), .val (.int na), .val (.int nb), .val (.int nc), .val (.int nd), .val (.ref b1), .val (.ref b2), .val (.ref b4), .val (.ref b7), .val (.ref b11), .val (.long ((0 : Int64) + (na.toInt64))), .second, .unset, .unset, .unset, .unset, .unset] [(.int nb), (.long ((0 : Int64) + (na.toInt64)))])) (fun _ k => XS.iload X132.here hx rfl (hb hby at_158) rfl k) ?_
              refine Done.st (B := T132.setTop (mkF m 161 #[.val (.int x0), .val (.int x1), .val (.int x2), .val (.int x3), .val (.int x4), .val (.int x5), .val (.int cnt), .val (.int na), .val (.int nb), .val (.int nc), .val (.int nd), .val (.ref b1), .val (.ref b2), .val (.ref b4), .val (.ref b7), .val (.ref b11), .val (.long ((0 : Int64) + (na.toInt64))), .second, .unset, .unset, .unset, .unset, .unset] [(.long (nb.toInt64)), (.long ((0 : Int64) + (na.toInt64)))])) (fun _ k => XS.i2l X132.here hx rfl (hb hby at_160) rfl k) ?_
              refine Done.st (B := T132.setTop (mkF m 162 #[.val (.int x0), .val (.int x1), .val (.int x2), .val (.int x3), .val (.int x4), .val (.int x5), .val (.int cnt), .val (.int na), .val (.int nb), .val (.int nc), .val (.int nd), .val (.ref b1), .val (.ref b2), .val (.ref b4), .val (.ref b7), .val (.ref b11), .val (.long ((0 : Int64) + (na.toInt64))), .second, .unset, .unset, .unset, .unset, .unset] [(.long (((0 : Int64) + (na.toInt64)) + (nb.toInt64)))])) (fun _ k => XS.ladd X132.here hx rfl (hb hby at_161) rfl k) ?_
              refine Done.st (B := T132.setTop (mkF m 164 #[.val (.int x0), .val (.int x1), .val (.int x2), .val (.int x3), .val (.int x4), .val (.int x5), .val (.int cnt), .val (.int na), .val (.int nb), .val (.int nc), .val (.int nd), .val (.ref b1), .val (.ref b2), .val (.ref b4), .val (.ref b7), .val (.ref b11), .val (.long (((0 : Int64) + (na.toInt64)) + (nb.toInt64))), .second, .unset, .unset, .unset, .unset, .unset] [])) (fun _ k => XS.lstore X132.here hx rfl (hb hby at_162) rfl (l' := #[.val (.int x0), .val (.int x1), .val (.int x2), .val (.int x3), .val (.int x4), .val (.int x5), .val (.int cnt), .val (.int na), .val (.int nb), .val (.int nc), .val (.int nd), .val (.ref b1), .val (.ref b2), .val (.ref b4), .val (.ref b7), .val (.ref b11), .val (.long (((0 : Int64) + (na.toInt64)) + (nb.toInt64))), .second, .unset, .unset, .unset, .unset, .unset]) rfl k) ?_
              refine Done.st (B := T132.setTop (mkF m 166 #[.val (.int x0), .val (.int x1), .val (.int x2), .val (.int x3), .val (.int x4), .val (.int x5), .val (.int cnt), .val (.int na), .val (.int nb), .val (.int nc), .val (.int nd), .val (.ref b1), .val (.ref b2), .val (.ref b4), .val (.ref b7), .val (.ref b11), .val (.long (((0 : Int64) + (na.toInt64)) + (nb.toInt64))), .second, .unset, .unset, .unset, .unset, .unset] [(.int cnt)])) (fun _ k => XS.iload X132.here hx rfl (hb hby at_164) rfl k) ?_
              refine Done.st (B := T132.setTop (mkF m 167 #[.val (.int x0), .val (.int x1), .val (.int x2), .val (.int x3), .val (.int x4), .val (.int x5), .val (.int cnt), .val (.int na), .val (.int nb), .val (.int nc), .val (.int nd), .val (.ref b1), .val (.ref b2), .val (.ref b4), .val (.ref b7), .val (.ref b11), .val (.long (((0 : Int64) + (na.toInt64)) + (nb.toInt64))), .second, .unset, .unset, .unset, .unset, .unset] [(.int (3 : Int32)), (.int cnt)])) (fun _ k => XS.iconst X132.here hx rfl (hb hby at_166) k) ?_
              refine Done.st (B := T132.setTop (mkF m 170 #[.val (.int x0), .val (.int x1), .val (.int x2), .val (.int x3), .val (.int x4), .val (.int x5), .val (.int cnt), .val (.int na), .val (.int nb), .val (.int nc), .val (.int nd), .val (.ref b1), .val (.ref b2), .val (.ref b4), .val (.ref b7), .val (.ref b11), .val (.long (((0 : Int64) + (na.toInt64)) + (nb.toInt64))), .second, .unset, .unset, .unset, .unset, .unset] [])) (fun _ k => XS.icmpNo X132.here hx rfl (hb hby at_167) rfl (flt (own_ge hk).2.2).1 k) ?_
              refine Done.st (B := T132.setTop (mkF m 172 #[.val (.int x0), .val (.int x1), .val (.int x2), .val (.int x3), .val (.int x4), .val (.int x5), .val (.int cnt), .val (.int na), .val (.int nb), .val (.int nc), .val (.int nd), .val (.ref b1), .val (.ref b2), .val (.ref b4), .val (.ref b7), .val (.ref b11), .val (.long (((0 : Int64) + (na.toInt64)) + (nb.toInt64))), .second, .unset, .unset, .unset, .unset, .unset] [(.ref b11)])) (fun _ k => XS.aload X132.here hx rfl (hb hby at_170) rfl rfl k) ?_
              refine Done.st (B := T132.setTop (mkF m 174 #[.val (.int x0), .val (.int x1), .val (.int x2), .val (.int x3), .val (.int x4), .val (.int x5), .val (.int cnt), .val (.int na), .val (.int nb), .val (.int nc), .val (.int nd), .val (.ref b1), .val (.ref b2), .val (.ref b4), .val (.ref b7), .val (.ref b11), .val (.long (((0 : Int64) + (na.toInt64)) + (nb.toInt64))), .second, .unset, .unset, .unset, .unset, .unset] [(.ref b4), (.ref b11)])) (fun _ k => XS.aload X132.here hx rfl (hb hby at_172) rfl rfl k) ?_
              have c133 := ((((Exa.ext E11 fj108_7).keep K13).keep K126).keep K132)
              obtain ⟨cq134, kq134, q134a, q134b, q134c⟩ := isOf hZ rfl f132_0
              obtain ⟨_, _, ⟨T134, L134, k134, n134⟩, -, X134, ⟨Lc134, hQ134, l134, y134, z134⟩, st134⟩ := X132.virtualBack hx (y := (⟨"java/util/ArrayList", "add", "(Ljava/lang/Object;)Z"⟩ : MethodName)) (z := (⟨"java/util/ArrayList", "add", "(Ljava/lang/Object;)Z"⟩ : MethodName)) hown (mvT hZ (hw _ (List.mem_of_getElem? (i := 54) rfl))) (mvT hZ (hw _ (List.mem_of_getElem? (i := 55) rfl))) (notFace_of_selects (args := #[]) (mvT hZ (hw _ (List.mem_of_getElem? (i := 57) rfl)))) (mvT hZ (hw _ (List.mem_of_getElem? (i := 57) rfl))) (mvT hZ (hw _ (List.mem_of_getElem? (i := 56) rfl))) (by decide) (backOf (W := 0) (rmA1_2 l Z a0 hw [] b11 b4 g (((0 : Int32) + (1 : Int32)) + (1 : Int32)) kg b1 b2 T132.heap n0 Z132 f132_0 f132_1 f132_2 f132_3 ge_b11 f132_4 O_g ge_g ne_b11_g c133) hZ (hw _ (List.mem_of_getElem? (i := 58) rfl)) (hw _ (List.mem_of_getElem? (i := 3) rfl)) (by decide) (by decide)) q134a q134c (g := (mkF m 174 #[.val (.int x0), .val (.int x1), .val (.int x2), .val (.int x3), .val (.int x4), .val (.int x5), .val (.int cnt), .val (.int na), .val (.int nb), .val (.int nc), .val (.int nd), .val (.ref b1), .val (.ref b2), .val (.ref b4), .val (.ref b7), .val (.ref b11), .val (.long (((0 : Int64) + (na.toInt64)) + (nb.toInt64))), .second, .unset, .unset, .unset, .unset, .unset] [(.ref b4), (.ref b11)])) rfl (by rw [hml]; rfl) (Steps.refl _) (argsL := [(.ref b4)]) (rest := []) (lenOf pd_10 rfl) rfl (by show 2 * 0 + _ ≤ _; exact Nat.le_of_eq rfl) (hb hby at_174) (fun _ _ => ⟨rfl, rfl, (by decide : 6 + 0 ≤ _), (by decide : 41 + 0 ≤ _)⟩)
              dsimp only [Pt.U, Pt.locs, Pt.cells, Pt.slots] at X134 l134 y134 z134 st134 hQ134
              subst l134 y134 z134
              obtain ⟨rfl, N134q, K134, f134_0, f134_1, f134_2, f134_3, f134_4⟩ := hQ134
              have N134 := Fr.app N132 N134q
              have Z134 : n0 ≤ T134.heap.size := Nat.le_trans Z132 K134.1
              refine Done.st (B := T134.setTop (mkF m 177 #[.val (.int x0), .val (.int x1), .val (.int x2), .val (.int x3), .val (.int x4), .val (.int x5), .val (.int cnt), .val (.int na), .val (.int nb), .val (.int nc), .val (.int nd), .val (.ref b1), .val (.ref b2), .val (.ref b4), .val (.ref b7), .val (.ref b11), .val (.long (((0 : Int64) + (na.toInt64)) + (nb.toInt64))), .second, .unset, .unset, .unset, .unset, .unset] [(.int (1 : Int32))])) (fun _ k => st134.trans k) ?_
              refine Done.st (B := T134.setTop (mkF m 178 #[.val (.int x0), .val (.int x1), .val (.int x2), .val (.int x3), .val (.int x4), .val (.int x5), .val (.int cnt), .val (.int na), .val (.int nb), .val (.int nc), .val (.int nd), .val (.ref b1), .val (.ref b2), .val (.ref b4), .val (.ref b7), .val (.ref b11), .val (.long (((0 : Int64) + (na.toInt64)) + (nb.toInt64))), .second, .unset, .unset, .unset, .unset, .unset] [])) (fun _ k => XS.pop X134.here hx rfl (hb hby at_177) rfl rfl k) ?_
              refine Done.st (B := T134.setTop (mkF m 180 #[.val (.int x0), .val (.int x1), .val (.int x2), .val (.int x3), .val (.int x4), .val (.int x5), .val (.int cnt), .val (.int na), .val (.int nb), .val (.int nc), .val (.int nd), .val (.ref b1), .val (.ref b2), .val (.ref b4), .val (.ref b7), .val (.ref b11), .val (.long (((0 : Int64) + (na.toInt64)) + (nb.toInt64))), .second, .unset, .unset, .unset, .unset, .unset] [(.long (((0 : Int64) + (na.toInt64)) + (nb.toInt64)))])) (fun _ k => XS.lload X134.here hx rfl (hb hby at_178) rfl k) ?_
              refine Done.st (B := T134.setTop (mkF m 182 #[.val (.int x0), .val (.int x1), .val (.int x2), .val (.int x3), .val (.int x4), .val (.int x5), .val (.int cnt), .val (.int na), .val (.int nb), .val (.int nc), .val (.int nd), .val (.ref b1), .val (.ref b2), .val (.ref b4), .val (.ref b7), .val (.ref b11), .val (.long (((0 : Int64) + (na.toInt64)) + (nb.toInt64))), .second, .unset, .unset, .unset, .unset, .unset] [(.int nc), (.long (((0 : Int64) + (na.toInt64)) + (nb.toInt64)))])) (fun _ k => XS.iload X134.here hx rfl (hb hby at_180) rfl k) ?_
              refine Done.st (B := T134.setTop (mkF m 183 #[.val (.int x0), .val (.int x1), .val (.int x2), .val (.int x3), .val (.int x4), .val (.int x5), .val (.int cnt), .val (.int na), .val (.int nb), .val (.int nc), .val (.int nd), .val (.ref b1), .val (.ref b2), .val (.ref b4), .val (.ref b7), .val (.ref b11), .val (.long (((0 : Int64) + (na.toInt64)) + (nb.toInt64))), .second, .unset, .unset, .unset, .unset, .unset] [(.long (nc.toInt64)), (.long (((0 : Int64) + (na.toInt64)) + (nb.toInt64)))])) (fun _ k => XS.i2l X134.here hx rfl (hb hby at_182) rfl k) ?_
              refine Done.st (B := T134.setTop (mkF m 184 #[.val (.int x0), .val (.int x1), .val (.int x2), .val (.int x3), .val (.int x4), .val (.int x5), .val (.int cnt), .val (.int na), .val (.int nb), .val (.int nc), .val (.int nd), .val (.ref b1), .val (.ref b2), .val (.ref b4), .val (.ref b7), .val (.ref b11), .val (.long (((0 : Int64) + (na.toInt64)) + (nb.toInt64))), .second, .unset, .unset, .unset, .unset, .unset] [(.long ((((0 : Int64) + (na.toInt64)) + (nb.toInt64)) + (nc.toInt64)))])) (fun _ k => XS.ladd X134.here hx rfl (hb hby at_183) rfl k) ?_
              refine Done.st (B := T134.setTop (mkF m 186 #[.val (.int x0), .val (.int x1), .val (.int x2), .val (.int x3), .val (.int x4), .val (.int x5), .val (.int cnt), .val (.int na), .val (.int nb), .val (.int nc), .val (.int nd), .val (.ref b1), .val (.ref b2), .val (.ref b4), .val (.ref b7), .val (.ref b11), .val (.long ((((0 : Int64) + (na.toInt64)) + (nb.toInt64)) + (nc.toInt64))), .second, .unset, .unset, .unset, .unset, .unset] [])) (fun _ k => XS.lstore X134.here hx rfl (hb hby at_184) rfl (l' := #[.val (.int x0), .val (.int x1), .val (.int x2), .val (.int x3), .val (.int x4), .val (.int x5), .val (.int cnt), .val (.int na), .val (.int nb), .val (.int nc), .val (.int nd), .val (.ref b1), .val (.ref b2), .val (.ref b4), .val (.ref b7), .val (.ref b11), .val (.long ((((0 : Int64) + (na.toInt64)) + (nb.toInt64)) + (nc.toInt64))), .second, .unset, .unset, .unset, .unset, .unset]) rfl k) ?_
              refine Done.st (B := T134.setTop (mkF m 188 #[.val (.int x0), .val (.int x1), .val (.int x2), .val (.int x3), .val (.int x4), .val (.int x5), .val (.int cnt), .val (.int na), .val (.int nb), .val (.int nc), .val (.int nd), .val (.ref b1), .val (.ref b2), .val (.ref b4), .val (.ref b7), .val (.ref b11), .val (.long ((((0 : Int64) + (na.toInt64)) + (nb.toInt64)) + (nc.toInt64))), .second, .unset, .unset, .unset, .unset, .unset] [(.int cnt)])) (fun _ k => XS.iload X134.here hx rfl (hb hby at_186) rfl k) ?_
              refine Done.st (B := T134.setTop (mkF m 189 #[.val (.int x0), .val (.int x1), .val (.int x2), .val (.int x3), .val (.int x4), .val (.int x5), .val (.int cnt), .val (.int na), .val (.int nb), .val (.int nc), .val (.int nd), .val (.ref b1), .val (.ref b2), .val (.ref b4), .val (.ref b7), .val (.ref b11), .val (.long ((((0 : Int64) + (na.toInt64)) + (nb.toInt64)) + (nc.toInt64))), .second, .unset, .unset, .unset, .unset, .unset] [(.int (4 : Int32)), (.int cnt)])) (fun _ k => XS.iconst X134.here hx rfl (hb hby at_188) k) ?_
              refine Done.st (B := T134.setTop (mkF m 192 #[.val (.int x0), .val (.int x1), .val (.int x2), .val (.int x3), .val (.int x4), .val (.int x5), .val (.int cnt), .val (.int na), .val (.int nb), .val (.int nc), .val (.int nd), .val (.ref b1), .val (.ref b2), .val (.ref b4), .val (.ref b7), .val (.ref b11), .val (.long ((((0 : Int64) + (na.toInt64)) + (nb.toInt64)) + (nc.toInt64))), .second, .unset, .unset, .unset, .unset, .unset] [])) (fun _ k => XS.icmpNo X134.here hx rfl (hb hby at_189) rfl (flt hk).1 k) ?_
              refine Done.st (B := T134.setTop (mkF m 194 #[.val (.int x0), .val (.int x1), .val (.int x2), .val (.int x3), .val (.int x4), .val (.int x5), .val (.int cnt), .val (.int na), .val (.int nb), .val (.int nc), .val (.int nd), .val (.ref b1), .val (.ref b2), .val (.ref b4), .val (.ref b7), .val (.ref b11), .val (.long ((((0 : Int64) + (na.toInt64)) + (nb.toInt64)) + (nc.toInt64))), .second, .unset, .unset, .unset, .unset, .unset] [(.ref b11)])) (fun _ k => XS.aload X134.here hx rfl (hb hby at_192) rfl rfl k) ?_
              refine Done.st (B := T134.setTop (mkF m 196 #[.val (.int x0), .val (.int x1), .val (.int x2), .val (.int x3), .val (.int x4), .val (.int x5), .val (.int cnt), .val (.int na), .val (.int nb), .val (.int nc), .val (.int nd), .val (.ref b1), .val (.ref b2), .val (.ref b4), .val (.ref b7), .val (.ref b11), .val (.long ((((0 : Int64) + (na.toInt64)) + (nb.toInt64)) + (nc.toInt64))), .second, .unset, .unset, .unset, .unset, .unset] [(.ref b7), (.ref b11)])) (fun _ k => XS.aload X134.here hx rfl (hb hby at_194) rfl rfl k) ?_
              have c135 := (((((Exa.ext E11 fj108_9).keep K13).keep K126).keep K132).keep K134)
              obtain ⟨cq136, kq136, q136a, q136b, q136c⟩ := isOf hZ rfl f134_0
              obtain ⟨_, _, ⟨T136, L136, k136, n136⟩, -, X136, ⟨Lc136, hQ136, l136, y136, z136⟩, st136⟩ := X134.virtualBack hx (y := (⟨"java/util/ArrayList", "add", "(Ljava/lang/Object;)Z"⟩ : MethodName)) (z := (⟨"java/util/ArrayList", "add", "(Ljava/lang/Object;)Z"⟩ : MethodName)) hown (mvT hZ (hw _ (List.mem_of_getElem? (i := 54) rfl))) (mvT hZ (hw _ (List.mem_of_getElem? (i := 55) rfl))) (notFace_of_selects (args := #[]) (mvT hZ (hw _ (List.mem_of_getElem? (i := 57) rfl)))) (mvT hZ (hw _ (List.mem_of_getElem? (i := 57) rfl))) (mvT hZ (hw _ (List.mem_of_getElem? (i := 56) rfl))) (by decide) (backOf (W := 0) (rmA1_3 l Z a0 hw [] b11 b7 g ((((0 : Int32) + (1 : Int32)) + (1 : Int32)) + (1 : Int32)) kg b1 b2 b4 T134.heap n0 Z134 f134_0 f134_1 f134_2 f134_3 ge_b11 f134_4 O_g ge_g ne_b11_g c135) hZ (hw _ (List.mem_of_getElem? (i := 58) rfl)) (hw _ (List.mem_of_getElem? (i := 3) rfl)) (by decide) (by decide)) q136a q136c (g := (mkF m 196 #[.val (.int x0), .val (.int x1), .val (.int x2), .val (.int x3), .val (.int x4), .val (.int x5), .val (.int cnt), .val (.int na), .val (.int nb), .val (.int nc), .val (.int nd), .val (.ref b1), .val (.ref b2), .val (.ref b4), .val (.ref b7), .val (.ref b11), .val (.long ((((0 : Int64) + (na.toInt64)) + (nb.toInt64)) + (nc.toInt64))), .second, .unset, .unset, .unset, .unset, .unset] [(.ref b7), (.ref b11)])) rfl (by rw [hml]; rfl) (Steps.refl _) (argsL := [(.ref b7)]) (rest := []) (lenOf pd_10 rfl) rfl (by show 2 * 0 + _ ≤ _; exact Nat.le_of_eq rfl) (hb hby at_196) (fun _ _ => ⟨rfl, rfl, (by decide : 6 + 0 ≤ _), (by decide : 41 + 0 ≤ _)⟩)
              dsimp only [Pt.U, Pt.locs, Pt.cells, Pt.slots] at X136 l136 y136 z136 st136 hQ136
              subst l136 y136 z136
              obtain ⟨rfl, N136q, K136, f136_0, f136_1, f136_2, f136_3, f136_4⟩ := hQ136
              have N136 := Fr.app N134 N136q
              have Z136 : n0 ≤ T136.heap.size := Nat.le_trans Z134 K136.1
              refine Done.st (B := T136.setTop (mkF m 199 #[.val (.int x0), .val (.int x1), .val (.int x2), .val (.int x3), .val (.int x4), .val (.int x5), .val (.int cnt), .val (.int na), .val (.int nb), .val (.int nc), .val (.int nd), .val (.ref b1), .val (.ref b2), .val (.ref b4), .val (.ref b7), .val (.ref b11), .val (.long ((((0 : Int64) + (na.toInt64)) + (nb.toInt64)) + (nc.toInt64))), .second, .unset, .unset, .unset, .unset, .unset] [(.int (1 : Int32))])) (fun _ k => st136.trans k) ?_
              refine Done.st (B := T136.setTop (mkF m 200 #[.val (.int x0), .val (.int x1), .val (.int x2), .val (.int x3), .val (.int x4), .val (.int x5), .val (.int cnt), .val (.int na), .val (.int nb), .val (.int nc), .val (.int nd), .val (.ref b1), .val (.ref b2), .val (.ref b4), .val (.ref b7), .val (.ref b11), .val (.long ((((0 : Int64) + (na.toInt64)) + (nb.toInt64)) + (nc.toInt64))), .second, .unset, .unset, .unset, .unset, .unset] [])) (fun _ k => XS.pop X136.here hx rfl (hb hby at_199) rfl rfl k) ?_
              refine Done.st (B := T136.setTop (mkF m 202 #[.val (.int x0), .val (.int x1), .val (.int x2), .val (.int x3), .val (.int x4), .val (.int x5), .val (.int cnt), .val (.int na), .val (.int nb), .val (.int nc), .val (.int nd), .val (.ref b1), .val (.ref b2), .val (.ref b4), .val (.ref b7), .val (.ref b11), .val (.long ((((0 : Int64) + (na.toInt64)) + (nb.toInt64)) + (nc.toInt64))), .second, .unset, .unset, .unset, .unset, .unset] [(.long ((((0 : Int64) + (na.toInt64)) + (nb.toInt64)) + (nc.toInt64)))])) (fun _ k => XS.lload X136.here hx rfl (hb hby at_200) rfl k) ?_
              refine Done.st (B := T136.setTop (mkF m 204 #[.val (.int x0), .val (.int x1), .val (.int x2), .val (.int x3), .val (.int x4), .val (.int x5), .val (.int cnt), .val (.int na), .val (.int nb), .val (.int nc), .val (.int nd), .val (.ref b1), .val (.ref b2), .val (.ref b4), .val (.ref b7), .val (.ref b11), .val (.long ((((0 : Int64) + (na.toInt64)) + (nb.toInt64)) + (nc.toInt64))), .second, .unset, .unset, .unset, .unset, .unset] [(.int nd), (.long ((((0 : Int64) + (na.toInt64)) + (nb.toInt64)) + (nc.toInt64)))])) (fun _ k => XS.iload X136.here hx rfl (hb hby at_202) rfl k) ?_
              refine Done.st (B := T136.setTop (mkF m 205 #[.val (.int x0), .val (.int x1), .val (.int x2), .val (.int x3), .val (.int x4), .val (.int x5), .val (.int cnt), .val (.int na), .val (.int nb), .val (.int nc), .val (.int nd), .val (.ref b1), .val (.ref b2), .val (.ref b4), .val (.ref b7), .val (.ref b11), .val (.long ((((0 : Int64) + (na.toInt64)) + (nb.toInt64)) + (nc.toInt64))), .second, .unset, .unset, .unset, .unset, .unset] [(.long (nd.toInt64)), (.long ((((0 : Int64) + (na.toInt64)) + (nb.toInt64)) + (nc.toInt64)))])) (fun _ k => XS.i2l X136.here hx rfl (hb hby at_204) rfl k) ?_
              refine Done.st (B := T136.setTop (mkF m 206 #[.val (.int x0), .val (.int x1), .val (.int x2), .val (.int x3), .val (.int x4), .val (.int x5), .val (.int cnt), .val (.int na), .val (.int nb), .val (.int nc), .val (.int nd), .val (.ref b1), .val (.ref b2), .val (.ref b4), .val (.ref b7), .val (.ref b11), .val (.long ((((0 : Int64) + (na.toInt64)) + (nb.toInt64)) + (nc.toInt64))), .second, .unset, .unset, .unset, .unset, .unset] [(.long (((((0 : Int64) + (na.toInt64)) + (nb.toInt64)) + (nc.toInt64)) + (nd.toInt64)))])) (fun _ k => XS.ladd X136.here hx rfl (hb hby at_205) rfl k) ?_
              refine Done.st (B := T136.setTop (mkF m 208 #[.val (.int x0), .val (.int x1), .val (.int x2), .val (.int x3), .val (.int x4), .val (.int x5), .val (.int cnt), .val (.int na), .val (.int nb), .val (.int nc), .val (.int nd), .val (.ref b1), .val (.ref b2), .val (.ref b4), .val (.ref b7), .val (.ref b11), .val (.long (((((0 : Int64) + (na.toInt64)) + (nb.toInt64)) + (nc.toInt64)) + (nd.toInt64))), .second, .unset, .unset, .unset, .unset, .unset] [])) (fun _ k => XS.lstore X136.here hx rfl (hb hby at_206) rfl (l' := #[.val (.int x0), .val (.int x1), .val (.int x2), .val (.int x3), .val (.int x4), .val (.int x5), .val (.int cnt), .val (.int na), .val (.int nb), .val (.int nc), .val (.int nd), .val (.ref b1), .val (.ref b2), .val (.ref b4), .val (.ref b7), .val (.ref b11), .val (.long (((((0 : Int64) + (na.toInt64)) + (nb.toInt64)) + (nc.toInt64)) + (nd.toInt64))), .second, .unset, .unset, .unset, .unset, .unset]) rfl k) ?_
              obtain ⟨T137, h137, X137, e137, E137, A137, D137, -, st137⟩ := newO X136 hx hZ hown (hw _ (List.mem_of_getElem? (i := 27) rfl)) (hw _ (List.mem_of_getElem? (i := 28) rfl)) (hw _ (List.mem_of_getElem? (i := 29) rfl)) rfl (g := (mkF m 208 #[.val (.int x0), .val (.int x1), .val (.int x2), .val (.int x3), .val (.int x4), .val (.int x5), .val (.int cnt), .val (.int na), .val (.int nb), .val (.int nc), .val (.int nd), .val (.ref b1), .val (.ref b2), .val (.ref b4), .val (.ref b7), .val (.ref b11), .val (.long (((((0 : Int64) + (na.toInt64)) + (nb.toInt64)) + (nc.toInt64)) + (nd.toInt64))), .second, .unset, .unset, .unset, .unset, .unset] [])) rfl (hb hby at_208) (by decide) (by decide)
              have c138 := ((((c124.keep K126 (ninS ne_w_D_b11 nin0)).keep K132 (ninS ne_w_D_b11 (ninS ne_w_D_g nin0))).keep K134 (ninS ne_w_D_b11 (ninS ne_w_D_g nin0))).keep K136 (ninS ne_w_D_b11 (ninS ne_w_D_g nin0)))
              have c139 := ((((c127.keep K126 (ninS ne_b1_b11 nin0)).keep K132 (ninS ne_b1_b11 (ninS ne_b1_g nin0))).keep K134 (ninS ne_b1_b11 (ninS ne_b1_g nin0))).keep K136 (ninS ne_b1_b11 (ninS ne_b1_g nin0)))
              have c140 := ((((c128.keep K126 (ninS ne_b2_b11 nin0)).keep K132 (ninS ne_b2_b11 (ninS ne_b2_g nin0))).keep K134 (ninS ne_b2_b11 (ninS ne_b2_g nin0))).keep K136 (ninS ne_b2_b11 (ninS ne_b2_g nin0)))
              have c141 := ((((c129.keep K126 (ninS ne_b4_b11 nin0)).keep K132 (ninS ne_b4_b11 (ninS ne_b4_g nin0))).keep K134 (ninS ne_b4_b11 (ninS ne_b4_g nin0))).keep K136 (ninS ne_b4_b11 (ninS ne_b4_g nin0)))
              have c142 := ((((c130.keep K126 (ninS ne_b7_b11 nin0)).keep K132 (ninS ne_b7_b11 (ninS ne_b7_g nin0))).keep K134 (ninS ne_b7_b11 (ninS ne_b7_g nin0))).keep K136 (ninS ne_b7_b11 (ninS ne_b7_g nin0)))
              obtain ⟨b137, g137⟩ : ∃ z, z = T136.heap.size := ⟨_, rfl⟩
              rw [← g137] at A137 D137 st137
              have ne_w_D_b137 : w_D ≠ b137 := Nat.ne_of_lt (Nat.lt_of_lt_of_le c138.lt (Nat.le_of_eq g137.symm))
              have ne_b1_b137 : b1 ≠ b137 := Nat.ne_of_lt (Nat.lt_of_lt_of_le c139.lt (Nat.le_of_eq g137.symm))
              have ne_b2_b137 : b2 ≠ b137 := Nat.ne_of_lt (Nat.lt_of_lt_of_le c140.lt (Nat.le_of_eq g137.symm))
              have ne_b4_b137 : b4 ≠ b137 := Nat.ne_of_lt (Nat.lt_of_lt_of_le c141.lt (Nat.le_of_eq g137.symm))
              have ne_b7_b137 : b7 ≠ b137 := Nat.ne_of_lt (Nat.lt_of_lt_of_le c142.lt (Nat.le_of_eq g137.symm))
              have ne_b11_b137 : b11 ≠ b137 := Nat.ne_of_lt (Nat.lt_of_lt_of_le f136_0.lt (Nat.le_of_eq g137.symm))
              have ne_g_b137 : g ≠ b137 := Nat.ne_of_lt (Nat.lt_of_lt_of_le f136_4.lt (Nat.le_of_eq g137.symm))
              have ge_b137 : n0 ≤ b137 := Nat.le_trans Z136 (Nat.le_of_eq g137.symm)
              have Z137 : n0 ≤ h137.size := Nat.le_trans Z136 E137.1
              have F137_tests : Fld Z h137 b137 "com/example/percurso/percurso/suite/Suite" "tests" "[[I" .null := D137 (Or.inr (hw _ (List.mem_of_getElem? (i := 48) rfl))) (ty := (.array (.array .int))) (by decide)
              refine Done.st (B := T137.setTop (mkF m 211 #[.val (.int x0), .val (.int x1), .val (.int x2), .val (.int x3), .val (.int x4), .val (.int x5), .val (.int cnt), .val (.int na), .val (.int nb), .val (.int nc), .val (.int nd), .val (.ref b1), .val (.ref b2), .val (.ref b4), .val (.ref b7), .val (.ref b11), .val (.long (((((0 : Int64) + (na.toInt64)) + (nb.toInt64)) + (nc.toInt64)) + (nd.toInt64))), .second, .unset, .unset, .unset, .unset, .unset] [(.ref b137)])) (fun _ k => st137 _ k) ?_
              refine Done.st (B := T137.setTop (mkF m 212 #[.val (.int x0), .val (.int x1), .val (.int x2), .val (.int x3), .val (.int x4), .val (.int x5), .val (.int cnt), .val (.int na), .val (.int nb), .val (.int nc), .val (.int nd), .val (.ref b1), .val (.ref b2), .val (.ref b4), .val (.ref b7), .val (.ref b11), .val (.long (((((0 : Int64) + (na.toInt64)) + (nb.toInt64)) + (nc.toInt64)) + (nd.toInt64))), .second, .unset, .unset, .unset, .unset, .unset] [(.ref b137), (.ref b137)])) (fun _ k => XS.dup X137.here hx rfl (hb hby at_211) rfl rfl k) ?_
              refine Done.st (B := T137.setTop (mkF m 214 #[.val (.int x0), .val (.int x1), .val (.int x2), .val (.int x3), .val (.int x4), .val (.int x5), .val (.int cnt), .val (.int na), .val (.int nb), .val (.int nc), .val (.int nd), .val (.ref b1), .val (.ref b2), .val (.ref b4), .val (.ref b7), .val (.ref b11), .val (.long (((((0 : Int64) + (na.toInt64)) + (nb.toInt64)) + (nc.toInt64)) + (nd.toInt64))), .second, .unset, .unset, .unset, .unset, .unset] [(.ref b11), (.ref b137), (.ref b137)])) (fun _ k => XS.aload X137.here hx rfl (hb hby at_212) rfl rfl k) ?_
              have c143 := (Exa.ext E137 f136_0)
              have c144 := (Fld.ext E137 f136_1)
              have c145 := (Fld.ext E137 f136_2)
              have c146 := (Fld.ext E137 f136_3)
              have c147 := (f136_4.ext E137)
              have c148 := (c139.ext E137)
              have c149 := (c140.ext E137)
              have c150 := (c141.ext E137)
              have c151 := (c142.ext E137)
              obtain ⟨_, _, ⟨T152, L152, k152, n152⟩, -, X152, ⟨Lc152, hQ152, l152, y152, z152⟩, st152⟩ := X137.specialBack hx (y := (⟨"com/example/percurso/percurso/suite/Suite", "<init>", "(Ljava/util/List;)V"⟩ : MethodName)) rfl hown (mvT hZ (hw _ (List.mem_of_getElem? (i := 30) rfl))) (mvT hZ (hw _ (List.mem_of_getElem? (i := 31) rfl))) (mvT hZ (hw _ (List.mem_of_getElem? (i := 32) rfl))) (by decide) (backOf (W := 1) (rmSI_4 l Z a0 hw [] b137 b11 (((((0 : Int32) + (1 : Int32)) + (1 : Int32)) + (1 : Int32)) + (1 : Int32)) g kg b1 b2 b4 b7 na nb nc nd h137 n0 Z137 F137_tests A137 ge_b137 c143 c144 c145 c146 c147 c148 hna c149 hnb c150 hnc c151 hnd (Ne.symm ne_b11_b137) (Ne.symm ne_g_b137) (Ne.symm ne_b1_b137) (Ne.symm ne_b2_b137) (Ne.symm ne_b4_b137) (Ne.symm ne_b7_b137)) hZ (hw _ (List.mem_of_getElem? (i := 32) rfl)) (hw _ (List.mem_of_getElem? (i := 29) rfl)) (by decide) (by decide)) (g := (mkF m 214 #[.val (.int x0), .val (.int x1), .val (.int x2), .val (.int x3), .val (.int x4), .val (.int x5), .val (.int cnt), .val (.int na), .val (.int nb), .val (.int nc), .val (.int nd), .val (.ref b1), .val (.ref b2), .val (.ref b4), .val (.ref b7), .val (.ref b11), .val (.long (((((0 : Int64) + (na.toInt64)) + (nb.toInt64)) + (nc.toInt64)) + (nd.toInt64))), .second, .unset, .unset, .unset, .unset, .unset] [(.ref b11), (.ref b137), (.ref b137)])) rfl (by rw [hml]; rfl) (Steps.refl _) (a := b137) (argsL := [(.ref b11)]) (rest := [(.ref b137)]) (lenOf pd_8 rfl) rfl (by show 2 * 0 + _ ≤ _; exact Nat.le_of_eq rfl) (hb hby at_214) (fun _ _ => ⟨rfl, e137, (by decide : 7 + 5 ≤ _), (by decide : 42 + 32 ≤ _)⟩)
              dsimp only [Pt.U, Pt.locs, Pt.cells, Pt.slots] at X152 l152 y152 z152 st152 hQ152
              subst l152 y152 z152
              have c153 := (c138.ext E137)
              obtain ⟨u, ku, ca0, ca1, ca2, ca3, rfl, N152q, K152, f152_0, f152_1, f152_2, f152_3, f152_4, f152_5, f152_6, f152_7⟩ := hQ152
              have N152 := Fr.app N136 N152q
              have ne_w_D_u : w_D ≠ u := Nat.ne_of_lt (Nat.lt_of_lt_of_le c153.lt f152_0)
              have ne_b1_u : b1 ≠ u := Nat.ne_of_lt (Nat.lt_of_lt_of_le c148.lt f152_0)
              have ne_b2_u : b2 ≠ u := Nat.ne_of_lt (Nat.lt_of_lt_of_le c149.lt f152_0)
              have ne_b4_u : b4 ≠ u := Nat.ne_of_lt (Nat.lt_of_lt_of_le c150.lt f152_0)
              have ne_b7_u : b7 ≠ u := Nat.ne_of_lt (Nat.lt_of_lt_of_le c151.lt f152_0)
              have ne_b11_u : b11 ≠ u := Nat.ne_of_lt (Nat.lt_of_lt_of_le c143.lt f152_0)
              have ne_g_u : g ≠ u := Nat.ne_of_lt (Nat.lt_of_lt_of_le c147.lt f152_0)
              have ne_b137_u : b137 ≠ u := Nat.ne_of_lt (Nat.lt_of_lt_of_le A137.lt f152_0)
              have ge_u : n0 ≤ u := Nat.le_trans Z137 f152_0
              have Z152 : n0 ≤ T152.heap.size := Nat.le_trans Z137 K152.1
              refine Done.st (B := T152.setTop (mkF m 217 #[.val (.int x0), .val (.int x1), .val (.int x2), .val (.int x3), .val (.int x4), .val (.int x5), .val (.int cnt), .val (.int na), .val (.int nb), .val (.int nc), .val (.int nd), .val (.ref b1), .val (.ref b2), .val (.ref b4), .val (.ref b7), .val (.ref b11), .val (.long (((((0 : Int64) + (na.toInt64)) + (nb.toInt64)) + (nc.toInt64)) + (nd.toInt64))), .second, .unset, .unset, .unset, .unset, .unset] [(.ref b137)])) (fun _ k => st152.trans k) ?_
              refine Done.st (B := T152.setTop (mkF m 219 #[.val (.int x0), .val (.int x1), .val (.int x2), .val (.int x3), .val (.int x4), .val (.int x5), .val (.int cnt), .val (.int na), .val (.int nb), .val (.int nc), .val (.int nd), .val (.ref b1), .val (.ref b2), .val (.ref b4), .val (.ref b7), .val (.ref b11), .val (.long (((((0 : Int64) + (na.toInt64)) + (nb.toInt64)) + (nc.toInt64)) + (nd.toInt64))), .second, .val (.ref b137), .unset, .unset, .unset, .unset] [])) (fun _ k => XS.astore X152.here hx rfl (hb hby at_217) rfl rfl (l' := #[.val (.int x0), .val (.int x1), .val (.int x2), .val (.int x3), .val (.int x4), .val (.int x5), .val (.int cnt), .val (.int na), .val (.int nb), .val (.int nc), .val (.int nd), .val (.ref b1), .val (.ref b2), .val (.ref b4), .val (.ref b7), .val (.ref b11), .val (.long (((((0 : Int64) + (na.toInt64)) + (nb.toInt64)) + (nc.toInt64)) + (nd.toInt64))), .second, .val (.ref b137), .unset, .unset, .unset, .unset]) rfl k) ?_
              refine Done.st (B := T152.setTop (mkF m 221 #[.val (.int x0), .val (.int x1), .val (.int x2), .val (.int x3), .val (.int x4), .val (.int x5), .val (.int cnt), .val (.int na), .val (.int nb), .val (.int nc), .val (.int nd), .val (.ref b1), .val (.ref b2), .val (.ref b4), .val (.ref b7), .val (.ref b11), .val (.long (((((0 : Int64) + (na.toInt64)) + (nb.toInt64)) + (nc.toInt64)) + (nd.toInt64))), .second, .val (.ref b137), .unset, .unset, .unset, .unset] [(.ref b137)])) (fun _ k => XS.aload X152.here hx rfl (hb hby at_219) rfl rfl k) ?_
              obtain ⟨cq154, kq154, q154a, q154b, q154c⟩ := isOf hZ rfl f152_1
              obtain ⟨_, _, ⟨T154, L154, k154, n154⟩, -, X154, ⟨Lc154, hQ154, l154, y154, z154⟩, st154⟩ := X152.virtualBack hx (y := (⟨"com/example/percurso/percurso/suite/Suite", "inputCount", "()J"⟩ : MethodName)) (z := (⟨"com/example/percurso/percurso/suite/Suite", "inputCount", "()J"⟩ : MethodName)) hown (mvT hZ (hw _ (List.mem_of_getElem? (i := 49) rfl))) (mvT hZ (hw _ (List.mem_of_getElem? (i := 50) rfl))) (notFace_of_selects (args := #[]) (mvT hZ (hw _ (List.mem_of_getElem? (i := 52) rfl)))) (mvT hZ (hw _ (List.mem_of_getElem? (i := 52) rfl))) (mvT hZ (hw _ (List.mem_of_getElem? (i := 51) rfl))) (by decide) (backOf (W := 0) (rmIC_4 l Z a0 hw [] b137 u ku ca0 ca1 ca2 ca3 na nb nc nd T152.heap n0 Z152 f152_2 f152_3 f152_4 f152_5 f152_6 f152_7) hZ (hw _ (List.mem_of_getElem? (i := 53) rfl)) (hw _ (List.mem_of_getElem? (i := 29) rfl)) (by decide) (by decide)) q154a q154c (g := (mkF m 221 #[.val (.int x0), .val (.int x1), .val (.int x2), .val (.int x3), .val (.int x4), .val (.int x5), .val (.int cnt), .val (.int na), .val (.int nb), .val (.int nc), .val (.int nd), .val (.ref b1), .val (.ref b2), .val (.ref b4), .val (.ref b7), .val (.ref b11), .val (.long (((((0 : Int64) + (na.toInt64)) + (nb.toInt64)) + (nc.toInt64)) + (nd.toInt64))), .second, .val (.ref b137), .unset, .unset, .unset, .unset] [(.ref b137)])) rfl (by rw [hml]; rfl) (Steps.refl _) (argsL := []) (rest := []) (lenOf pd_9 rfl) rfl (by show 2 * 0 + _ ≤ _; exact Nat.le_of_eq rfl) (hb hby at_221) (fun _ _ => ⟨rfl, rfl, (by decide : 12 + 0 ≤ _), (by decide : 74 + 0 ≤ _)⟩)
              dsimp only [Pt.U, Pt.locs, Pt.cells, Pt.slots] at X154 l154 y154 z154 st154 hQ154
              subst l154 y154 z154
              obtain ⟨rfl, N154q, e154⟩ := hQ154
              have N154 := Fr.app N152 N154q
              refine Done.st (B := T154.setTop (mkF m 224 #[.val (.int x0), .val (.int x1), .val (.int x2), .val (.int x3), .val (.int x4), .val (.int x5), .val (.int cnt), .val (.int na), .val (.int nb), .val (.int nc), .val (.int nd), .val (.ref b1), .val (.ref b2), .val (.ref b4), .val (.ref b7), .val (.ref b11), .val (.long (((((0 : Int64) + (na.toInt64)) + (nb.toInt64)) + (nc.toInt64)) + (nd.toInt64))), .second, .val (.ref b137), .unset, .unset, .unset, .unset] [(.long (((((0 : Int64) + (na.toInt64)) + (nb.toInt64)) + (nc.toInt64)) + (nd.toInt64)))])) (fun _ k => st154.trans k) ?_
              refine Done.st (B := T154.setTop (mkF m 226 #[.val (.int x0), .val (.int x1), .val (.int x2), .val (.int x3), .val (.int x4), .val (.int x5), .val (.int cnt), .val (.int na), .val (.int nb), .val (.int nc), .val (.int nd), .val (.ref b1), .val (.ref b2), .val (.ref b4), .val (.ref b7), .val (.ref b11), .val (.long (((((0 : Int64) + (na.toInt64)) + (nb.toInt64)) + (nc.toInt64)) + (nd.toInt64))), .second, .val (.ref b137), .val (.long (((((0 : Int64) + (na.toInt64)) + (nb.toInt64)) + (nc.toInt64)) + (nd.toInt64))), .second, .unset, .unset] [])) (fun _ k => XS.lstore X154.here hx rfl (hb hby at_224) rfl (l' := #[.val (.int x0), .val (.int x1), .val (.int x2), .val (.int x3), .val (.int x4), .val (.int x5), .val (.int cnt), .val (.int na), .val (.int nb), .val (.int nc), .val (.int nd), .val (.ref b1), .val (.ref b2), .val (.ref b4), .val (.ref b7), .val (.ref b11), .val (.long (((((0 : Int64) + (na.toInt64)) + (nb.toInt64)) + (nc.toInt64)) + (nd.toInt64))), .second, .val (.ref b137), .val (.long (((((0 : Int64) + (na.toInt64)) + (nb.toInt64)) + (nc.toInt64)) + (nd.toInt64))), .second, .unset, .unset]) rfl k) ?_
              refine Done.st (B := T154.setTop (mkF m 228 #[.val (.int x0), .val (.int x1), .val (.int x2), .val (.int x3), .val (.int x4), .val (.int x5), .val (.int cnt), .val (.int na), .val (.int nb), .val (.int nc), .val (.int nd), .val (.ref b1), .val (.ref b2), .val (.ref b4), .val (.ref b7), .val (.ref b11), .val (.long (((((0 : Int64) + (na.toInt64)) + (nb.toInt64)) + (nc.toInt64)) + (nd.toInt64))), .second, .val (.ref b137), .val (.long (((((0 : Int64) + (na.toInt64)) + (nb.toInt64)) + (nc.toInt64)) + (nd.toInt64))), .second, .unset, .unset] [(.ref b137)])) (fun _ k => XS.aload X154.here hx rfl (hb hby at_226) rfl rfl k) ?_
              obtain ⟨cq155, kq155, q155a, q155b, q155c⟩ := isOf hZ e154 f152_1
              obtain ⟨_, _, ⟨T155, L155, k155, n155⟩, -, X155, ⟨Lc155, hQ155, l155, y155, z155⟩, st155⟩ := X154.virtualBack hx (y := (⟨"com/example/percurso/percurso/suite/Suite", "inputCount", "()J"⟩ : MethodName)) (z := (⟨"com/example/percurso/percurso/suite/Suite", "inputCount", "()J"⟩ : MethodName)) hown (mvT hZ (hw _ (List.mem_of_getElem? (i := 49) rfl))) (mvT hZ (hw _ (List.mem_of_getElem? (i := 50) rfl))) (notFace_of_selects (args := #[]) (mvT hZ (hw _ (List.mem_of_getElem? (i := 52) rfl)))) (mvT hZ (hw _ (List.mem_of_getElem? (i := 52) rfl))) (mvT hZ (hw _ (List.mem_of_getElem? (i := 51) rfl))) (by decide) (backOf (W := 0) (rmIC_4 l Z a0 hw [] b137 u ku ca0 ca1 ca2 ca3 na nb nc nd T152.heap n0 Z152 f152_2 f152_3 f152_4 f152_5 f152_6 f152_7) hZ (hw _ (List.mem_of_getElem? (i := 53) rfl)) (hw _ (List.mem_of_getElem? (i := 29) rfl)) (by decide) (by decide)) q155a q155c (g := (mkF m 228 #[.val (.int x0), .val (.int x1), .val (.int x2), .val (.int x3), .val (.int x4), .val (.int x5), .val (.int cnt), .val (.int na), .val (.int nb), .val (.int nc), .val (.int nd), .val (.ref b1), .val (.ref b2), .val (.ref b4), .val (.ref b7), .val (.ref b11), .val (.long (((((0 : Int64) + (na.toInt64)) + (nb.toInt64)) + (nc.toInt64)) + (nd.toInt64))), .second, .val (.ref b137), .val (.long (((((0 : Int64) + (na.toInt64)) + (nb.toInt64)) + (nc.toInt64)) + (nd.toInt64))), .second, .unset, .unset] [(.ref b137)])) rfl (by rw [hml]; rfl) (Steps.refl _) (argsL := []) (rest := []) (lenOf pd_9 rfl) rfl (by show 2 * 0 + _ ≤ _; exact Nat.le_of_eq rfl) (hb hby at_228) (fun _ _ => ⟨rfl, e154, (by decide : 12 + 0 ≤ _), (by decide : 74 + 0 ≤ _)⟩)
              dsimp only [Pt.U, Pt.locs, Pt.cells, Pt.slots] at X155 l155 y155 z155 st155 hQ155
              subst l155 y155 z155
              obtain ⟨rfl, N155q, e155⟩ := hQ155
              have N155 := Fr.app N154 N155q
              refine Done.st (B := T155.setTop (mkF m 231 #[.val (.int x0), .val (.int x1), .val (.int x2), .val (.int x3), .val (.int x4), .val (.int x5), .val (.int cnt), .val (.int na), .val (.int nb), .val (.int nc), .val (.int nd), .val (.ref b1), .val (.ref b2), .val (.ref b4), .val (.ref b7), .val (.ref b11), .val (.long (((((0 : Int64) + (na.toInt64)) + (nb.toInt64)) + (nc.toInt64)) + (nd.toInt64))), .second, .val (.ref b137), .val (.long (((((0 : Int64) + (na.toInt64)) + (nb.toInt64)) + (nc.toInt64)) + (nd.toInt64))), .second, .unset, .unset] [(.long (((((0 : Int64) + (na.toInt64)) + (nb.toInt64)) + (nc.toInt64)) + (nd.toInt64)))])) (fun _ k => st155.trans k) ?_
              refine Done.st (B := T155.setTop (mkF m 233 #[.val (.int x0), .val (.int x1), .val (.int x2), .val (.int x3), .val (.int x4), .val (.int x5), .val (.int cnt), .val (.int na), .val (.int nb), .val (.int nc), .val (.int nd), .val (.ref b1), .val (.ref b2), .val (.ref b4), .val (.ref b7), .val (.ref b11), .val (.long (((((0 : Int64) + (na.toInt64)) + (nb.toInt64)) + (nc.toInt64)) + (nd.toInt64))), .second, .val (.ref b137), .val (.long (((((0 : Int64) + (na.toInt64)) + (nb.toInt64)) + (nc.toInt64)) + (nd.toInt64))), .second, .val (.long (((((0 : Int64) + (na.toInt64)) + (nb.toInt64)) + (nc.toInt64)) + (nd.toInt64))), .second] [])) (fun _ k => XS.lstore X155.here hx rfl (hb hby at_231) rfl (l' := #[.val (.int x0), .val (.int x1), .val (.int x2), .val (.int x3), .val (.int x4), .val (.int x5), .val (.int cnt), .val (.int na), .val (.int nb), .val (.int nc), .val (.int nd), .val (.ref b1), .val (.ref b2), .val (.ref b4), .val (.ref b7), .val (.ref b11), .val (.long (((((0 : Int64) + (na.toInt64)) + (nb.toInt64)) + (nc.toInt64)) + (nd.toInt64))), .second, .val (.ref b137), .val (.long (((((0 : Int64) + (na.toInt64)) + (nb.toInt64)) + (nc.toInt64)) + (nd.toInt64))), .second, .val (.long (((((0 : Int64) + (na.toInt64)) + (nb.toInt64)) + (nc.toInt64)) + (nd.toInt64))), .second]) rfl k) ?_
              refine Done.st (B := T155.setTop (mkF m 235 #[.val (.int x0), .val (.int x1), .val (.int x2), .val (.int x3), .val (.int x4), .val (.int x5), .val (.int cnt), .val (.int na), .val (.int nb), .val (.int nc), .val (.int nd), .val (.ref b1), .val (.ref b2), .val (.ref b4), .val (.ref b7), .val (.ref b11), .val (.long (((((0 : Int64) + (na.toInt64)) + (nb.toInt64)) + (nc.toInt64)) + (nd.toInt64))), .second, .val (.ref b137), .val (.long (((((0 : Int64) + (na.toInt64)) + (nb.toInt64)) + (nc.toInt64)) + (nd.toInt64))), .second, .val (.long (((((0 : Int64) + (na.toInt64)) + (nb.toInt64)) + (nc.toInt64)) + (nd.toInt64))), .second] [(.long (((((0 : Int64) + (na.toInt64)) + (nb.toInt64)) + (nc.toInt64)) + (nd.toInt64)))])) (fun _ k => XS.lload X155.here hx rfl (hb hby at_233) rfl k) ?_
              refine Done.st (B := T155.setTop (mkF m 237 #[.val (.int x0), .val (.int x1), .val (.int x2), .val (.int x3), .val (.int x4), .val (.int x5), .val (.int cnt), .val (.int na), .val (.int nb), .val (.int nc), .val (.int nd), .val (.ref b1), .val (.ref b2), .val (.ref b4), .val (.ref b7), .val (.ref b11), .val (.long (((((0 : Int64) + (na.toInt64)) + (nb.toInt64)) + (nc.toInt64)) + (nd.toInt64))), .second, .val (.ref b137), .val (.long (((((0 : Int64) + (na.toInt64)) + (nb.toInt64)) + (nc.toInt64)) + (nd.toInt64))), .second, .val (.long (((((0 : Int64) + (na.toInt64)) + (nb.toInt64)) + (nc.toInt64)) + (nd.toInt64))), .second] [(.long (((((0 : Int64) + (na.toInt64)) + (nb.toInt64)) + (nc.toInt64)) + (nd.toInt64))), (.long (((((0 : Int64) + (na.toInt64)) + (nb.toInt64)) + (nc.toInt64)) + (nd.toInt64)))])) (fun _ k => XS.lload X155.here hx rfl (hb hby at_235) rfl k) ?_
              refine Done.st (B := T155.setTop (mkF m 238 #[.val (.int x0), .val (.int x1), .val (.int x2), .val (.int x3), .val (.int x4), .val (.int x5), .val (.int cnt), .val (.int na), .val (.int nb), .val (.int nc), .val (.int nd), .val (.ref b1), .val (.ref b2), .val (.ref b4), .val (.ref b7), .val (.ref b11), .val (.long (((((0 : Int64) + (na.toInt64)) + (nb.toInt64)) + (nc.toInt64)) + (nd.toInt64))), .second, .val (.ref b137), .val (.long (((((0 : Int64) + (na.toInt64)) + (nb.toInt64)) + (nc.toInt64)) + (nd.toInt64))), .second, .val (.long (((((0 : Int64) + (na.toInt64)) + (nb.toInt64)) + (nc.toInt64)) + (nd.toInt64))), .second] [(.int (lcmpW (((((0 : Int64) + (na.toInt64)) + (nb.toInt64)) + (nc.toInt64)) + (nd.toInt64)) (((((0 : Int64) + (na.toInt64)) + (nb.toInt64)) + (nc.toInt64)) + (nd.toInt64))))])) (fun _ k => XS.lcmp X155.here hx rfl (hb hby at_237) rfl k) ?_
              refine Done.st (B := T155.setTop (mkF m 241 #[.val (.int x0), .val (.int x1), .val (.int x2), .val (.int x3), .val (.int x4), .val (.int x5), .val (.int cnt), .val (.int na), .val (.int nb), .val (.int nc), .val (.int nd), .val (.ref b1), .val (.ref b2), .val (.ref b4), .val (.ref b7), .val (.ref b11), .val (.long (((((0 : Int64) + (na.toInt64)) + (nb.toInt64)) + (nc.toInt64)) + (nd.toInt64))), .second, .val (.ref b137), .val (.long (((((0 : Int64) + (na.toInt64)) + (nb.toInt64)) + (nc.toInt64)) + (nd.toInt64))), .second, .val (.long (((((0 : Int64) + (na.toInt64)) + (nb.toInt64)) + (nc.toInt64)) + (nd.toInt64))), .second] [])) (fun _ k => XS.ifNo X155.here hx rfl (hb hby at_238) rfl ((if0 _ _).trans (teq ((lw_eq _ _).mpr (rfl : (((((0 : Int64) + (na.toInt64)) + (nb.toInt64)) + (nc.toInt64)) + (nd.toInt64)) = (((((0 : Int64) + (na.toInt64)) + (nb.toInt64)) + (nc.toInt64)) + (nd.toInt64))))).2) k) ?_
              refine Done.st (B := T155.setTop (mkF m 243 #[.val (.int x0), .val (.int x1), .val (.int x2), .val (.int x3), .val (.int x4), .val (.int x5), .val (.int cnt), .val (.int na), .val (.int nb), .val (.int nc), .val (.int nd), .val (.ref b1), .val (.ref b2), .val (.ref b4), .val (.ref b7), .val (.ref b11), .val (.long (((((0 : Int64) + (na.toInt64)) + (nb.toInt64)) + (nc.toInt64)) + (nd.toInt64))), .second, .val (.ref b137), .val (.long (((((0 : Int64) + (na.toInt64)) + (nb.toInt64)) + (nc.toInt64)) + (nd.toInt64))), .second, .val (.long (((((0 : Int64) + (na.toInt64)) + (nb.toInt64)) + (nc.toInt64)) + (nd.toInt64))), .second] [(.long (((((0 : Int64) + (na.toInt64)) + (nb.toInt64)) + (nc.toInt64)) + (nd.toInt64)))])) (fun _ k => XS.lload X155.here hx rfl (hb hby at_241) rfl k) ?_
              refine Done.st (B := T155.setTop (mkF m 245 #[.val (.int x0), .val (.int x1), .val (.int x2), .val (.int x3), .val (.int x4), .val (.int x5), .val (.int cnt), .val (.int na), .val (.int nb), .val (.int nc), .val (.int nd), .val (.ref b1), .val (.ref b2), .val (.ref b4), .val (.ref b7), .val (.ref b11), .val (.long (((((0 : Int64) + (na.toInt64)) + (nb.toInt64)) + (nc.toInt64)) + (nd.toInt64))), .second, .val (.ref b137), .val (.long (((((0 : Int64) + (na.toInt64)) + (nb.toInt64)) + (nc.toInt64)) + (nd.toInt64))), .second, .val (.long (((((0 : Int64) + (na.toInt64)) + (nb.toInt64)) + (nc.toInt64)) + (nd.toInt64))), .second] [(.long (((((0 : Int64) + (na.toInt64)) + (nb.toInt64)) + (nc.toInt64)) + (nd.toInt64))), (.long (((((0 : Int64) + (na.toInt64)) + (nb.toInt64)) + (nc.toInt64)) + (nd.toInt64)))])) (fun _ k => XS.lload X155.here hx rfl (hb hby at_243) rfl k) ?_
              refine Done.st (B := T155.setTop (mkF m 246 #[.val (.int x0), .val (.int x1), .val (.int x2), .val (.int x3), .val (.int x4), .val (.int x5), .val (.int cnt), .val (.int na), .val (.int nb), .val (.int nc), .val (.int nd), .val (.ref b1), .val (.ref b2), .val (.ref b4), .val (.ref b7), .val (.ref b11), .val (.long (((((0 : Int64) + (na.toInt64)) + (nb.toInt64)) + (nc.toInt64)) + (nd.toInt64))), .second, .val (.ref b137), .val (.long (((((0 : Int64) + (na.toInt64)) + (nb.toInt64)) + (nc.toInt64)) + (nd.toInt64))), .second, .val (.long (((((0 : Int64) + (na.toInt64)) + (nb.toInt64)) + (nc.toInt64)) + (nd.toInt64))), .second] [(.int (lcmpW (((((0 : Int64) + (na.toInt64)) + (nb.toInt64)) + (nc.toInt64)) + (nd.toInt64)) (((((0 : Int64) + (na.toInt64)) + (nb.toInt64)) + (nc.toInt64)) + (nd.toInt64))))])) (fun _ k => XS.lcmp X155.here hx rfl (hb hby at_245) rfl k) ?_
              refine Done.st (B := T155.setTop (mkF m 249 #[.val (.int x0), .val (.int x1), .val (.int x2), .val (.int x3), .val (.int x4), .val (.int x5), .val (.int cnt), .val (.int na), .val (.int nb), .val (.int nc), .val (.int nd), .val (.ref b1), .val (.ref b2), .val (.ref b4), .val (.ref b7), .val (.ref b11), .val (.long (((((0 : Int64) + (na.toInt64)) + (nb.toInt64)) + (nc.toInt64)) + (nd.toInt64))), .second, .val (.ref b137), .val (.long (((((0 : Int64) + (na.toInt64)) + (nb.toInt64)) + (nc.toInt64)) + (nd.toInt64))), .second, .val (.long (((((0 : Int64) + (na.toInt64)) + (nb.toInt64)) + (nc.toInt64)) + (nd.toInt64))), .second] [])) (fun _ k => XS.ifNo X155.here hx rfl (hb hby at_246) rfl ((if0 _ _).trans (teq ((lw_eq _ _).mpr (rfl : (((((0 : Int64) + (na.toInt64)) + (nb.toInt64)) + (nc.toInt64)) + (nd.toInt64)) = (((((0 : Int64) + (na.toInt64)) + (nb.toInt64)) + (nc.toInt64)) + (nd.toInt64))))).2) k) ?_
              refine Done.st (B := T155.setTop (mkF m 250 #[.val (.int x0), .val (.int x1), .val (.int x2), .val (.int x3), .val (.int x4), .val (.int x5), .val (.int cnt), .val (.int na), .val (.int nb), .val (.int nc), .val (.int nd), .val (.ref b1), .val (.ref b2), .val (.ref b4), .val (.ref b7), .val (.ref b11), .val (.long (((((0 : Int64) + (na.toInt64)) + (nb.toInt64)) + (nc.toInt64)) + (nd.toInt64))), .second, .val (.ref b137), .val (.long (((((0 : Int64) + (na.toInt64)) + (nb.toInt64)) + (nc.toInt64)) + (nd.toInt64))), .second, .val (.long (((((0 : Int64) + (na.toInt64)) + (nb.toInt64)) + (nc.toInt64)) + (nd.toInt64))), .second] [(.int (1 : Int32))])) (fun _ k => XS.iconst X155.here hx rfl (hb hby at_249) k) ?_
              refine Done.st (B := T155.setTop (mkF m 254 #[.val (.int x0), .val (.int x1), .val (.int x2), .val (.int x3), .val (.int x4), .val (.int x5), .val (.int cnt), .val (.int na), .val (.int nb), .val (.int nc), .val (.int nd), .val (.ref b1), .val (.ref b2), .val (.ref b4), .val (.ref b7), .val (.ref b11), .val (.long (((((0 : Int64) + (na.toInt64)) + (nb.toInt64)) + (nc.toInt64)) + (nd.toInt64))), .second, .val (.ref b137), .val (.long (((((0 : Int64) + (na.toInt64)) + (nb.toInt64)) + (nc.toInt64)) + (nd.toInt64))), .second, .val (.long (((((0 : Int64) + (na.toInt64)) + (nb.toInt64)) + (nc.toInt64)) + (nd.toInt64))), .second] [(.int (1 : Int32))])) (fun _ k => XS.goto X155.here hx rfl (pc0 := 250) (pc' := 254) rfl (hb hby at_250) (by decide) (by decide) k) ?_
              obtain ⟨fs, hr, hrun, hended, hW, hsame⟩ := X155.leave (v := some (.int (1 : Int32))) (hlocks := hlk) (fun h => by rw [Bd.returns] at h; cases h)
              refine Done.fin (retN X155 hx (t := .boolean) Bd.returns (by simp) (hb hby at_254) hr) hrun hended ⟨_, _, rfl, ?_, ⟨_, rfl⟩, hW, hsame.mono (by decide) (by decide)⟩
              show Qrm0 Z x0 x1 x2 x3 x4 x5 w_D kw_D h0 n0 _ T155.heap _
              rw [e155]
              exact ⟨rfl, N155⟩
            · exact absurd hk (own_ng hcnt)
          refine Done.st (B := Tj92.setTop (mkF m 94 #[.val (.int x0), .val (.int x1), .val (.int x2), .val (.int x3), .val (.int x4), .val (.int x5), .val (.int cnt), .val (.int na), .val (.int nb), .val (.int nc), .val (.int nd), .val (.ref b1), .val (.ref b2), .val (.ref b4), .val (.ref b7), .unset, .unset, .unset, .unset, .unset, .unset, .unset, .unset] [(.int nd)])) (fun _ k => XS.iload Xj92.here hx rfl (hb hby at_92) rfl k) ?_
          by_cases hc94 : (0 : Int32) < nd
          · refine Done.st (B := Tj92.setTop (mkF m 97 #[.val (.int x0), .val (.int x1), .val (.int x2), .val (.int x3), .val (.int x4), .val (.int x5), .val (.int cnt), .val (.int na), .val (.int nb), .val (.int nc), .val (.int nd), .val (.ref b1), .val (.ref b2), .val (.ref b4), .val (.ref b7), .unset, .unset, .unset, .unset, .unset, .unset, .unset, .unset] [])) (fun _ k => XS.ifNo Xj92.here hx rfl (hb hby at_94) rfl ((if0 _ _).trans (tlt hc94).2.2.2) k) ?_
            refine Done.st (B := Tj92.setTop (mkF m 99 #[.val (.int x0), .val (.int x1), .val (.int x2), .val (.int x3), .val (.int x4), .val (.int x5), .val (.int cnt), .val (.int na), .val (.int nb), .val (.int nc), .val (.int nd), .val (.ref b1), .val (.ref b2), .val (.ref b4), .val (.ref b7), .unset, .unset, .unset, .unset, .unset, .unset, .unset, .unset] [(.ref b7)])) (fun _ k => XS.aload Xj92.here hx rfl (hb hby at_97) rfl rfl k) ?_
            refine Done.st (B := Tj92.setTop (mkF m 101 #[.val (.int x0), .val (.int x1), .val (.int x2), .val (.int x3), .val (.int x4), .val (.int x5), .val (.int cnt), .val (.int na), .val (.int nb), .val (.int nc), .val (.int nd), .val (.ref b1), .val (.ref b2), .val (.ref b4), .val (.ref b7), .unset, .unset, .unset, .unset, .unset, .unset, .unset, .unset] [(.int nd), (.ref b7)])) (fun _ k => XS.iload Xj92.here hx rfl (hb hby at_99) rfl k) ?_
            refine Done.st (B := Tj92.setTop (mkF m 102 #[.val (.int x0), .val (.int x1), .val (.int x2), .val (.int x3), .val (.int x4), .val (.int x5), .val (.int cnt), .val (.int na), .val (.int nb), .val (.int nc), .val (.int nd), .val (.ref b1), .val (.ref b2), .val (.ref b4), .val (.ref b7), .unset, .unset, .unset, .unset, .unset, .unset, .unset, .unset] [(.int (1 : Int32)), (.int nd), (.ref b7)])) (fun _ k => XS.iconst Xj92.here hx rfl (hb hby at_101) k) ?_
            refine Done.st (B := Tj92.setTop (mkF m 103 #[.val (.int x0), .val (.int x1), .val (.int x2), .val (.int x3), .val (.int x4), .val (.int x5), .val (.int cnt), .val (.int na), .val (.int nb), .val (.int nc), .val (.int nd), .val (.ref b1), .val (.ref b2), .val (.ref b4), .val (.ref b7), .unset, .unset, .unset, .unset, .unset, .unset, .unset, .unset] [(.int (nd - (1 : Int32))), (.ref b7)])) (fun _ k => XS.isub Xj92.here hx rfl (hb hby at_102) rfl k) ?_
            refine Done.st (B := Tj92.setTop (mkF m 105 #[.val (.int x0), .val (.int x1), .val (.int x2), .val (.int x3), .val (.int x4), .val (.int x5), .val (.int cnt), .val (.int na), .val (.int nb), .val (.int nc), .val (.int nd), .val (.ref b1), .val (.ref b2), .val (.ref b4), .val (.ref b7), .unset, .unset, .unset, .unset, .unset, .unset, .unset, .unset] [(.int x5), (.int (nd - (1 : Int32))), (.ref b7)])) (fun _ k => XS.iload Xj92.here hx rfl (hb hby at_103) rfl k) ?_
            refine Done.st (B := Tj92.setTop (mkF m 106 #[.val (.int x0), .val (.int x1), .val (.int x2), .val (.int x3), .val (.int x4), .val (.int x5), .val (.int cnt), .val (.int na), .val (.int nb), .val (.int nc), .val (.int nd), .val (.ref b1), .val (.ref b2), .val (.ref b4), .val (.ref b7), .unset, .unset, .unset, .unset, .unset, .unset, .unset, .unset] [(.int (1 : Int32)), (.int x5), (.int (nd - (1 : Int32))), (.ref b7)])) (fun _ k => XS.iconst Xj92.here hx rfl (hb hby at_105) k) ?_
            refine Done.st (B := Tj92.setTop (mkF m 107 #[.val (.int x0), .val (.int x1), .val (.int x2), .val (.int x3), .val (.int x4), .val (.int x5), .val (.int cnt), .val (.int na), .val (.int nb), .val (.int nc), .val (.int nd), .val (.ref b1), .val (.ref b2), .val (.ref b4), .val (.ref b7), .unset, .unset, .unset, .unset, .unset, .unset, .unset, .unset] [(.int (x5 ^^^ (1 : Int32))), (.int (nd - (1 : Int32))), (.ref b7)])) (fun _ k => XS.ixor Xj92.here hx rfl (hb hby at_106) rfl k) ?_
            obtain ⟨T157, h157, X157, e157, W157, Y157, st157⟩ := IA.store Xj92 hx hZ ej92 fj92_8 (j := (nd - (1 : Int32))) (own_b1 hc94) (g := (mkF m 107 #[.val (.int x0), .val (.int x1), .val (.int x2), .val (.int x3), .val (.int x4), .val (.int x5), .val (.int cnt), .val (.int na), .val (.int nb), .val (.int nc), .val (.int nd), .val (.ref b1), .val (.ref b2), .val (.ref b4), .val (.ref b7), .unset, .unset, .unset, .unset, .unset, .unset, .unset, .unset] [(.int (x5 ^^^ (1 : Int32))), (.int (nd - (1 : Int32))), (.ref b7)])) rfl rfl (hb hby at_107)
            have N157 := Fr.snoc X157 Nj92 ge_b7
            have Z157 : n0 ≤ h157.size := Nat.le_trans Zj92 (Keep.of_wr W157).1
            refine Done.st (B := T157.setTop (mkF m 108 #[.val (.int x0), .val (.int x1), .val (.int x2), .val (.int x3), .val (.int x4), .val (.int x5), .val (.int cnt), .val (.int na), .val (.int nb), .val (.int nc), .val (.int nd), .val (.ref b1), .val (.ref b2), .val (.ref b4), .val (.ref b7), .unset, .unset, .unset, .unset, .unset, .unset, .unset, .unset] [])) (fun _ k => st157 _ k) ?_
            have c158 := (Sta.wr W157 fj92_0)
            have c159 := (fj92_1.other W157 ne_w_D_b7)
            have c160 := (fj92_2.other W157 ne_b1_b7)
            have c161 := (Exa.wr W157 fj92_3)
            have c162 := (fj92_4.other W157 ne_b2_b7)
            have c163 := (Exa.wr W157 fj92_5)
            have c164 := (fj92_6.other W157 ne_b4_b7)
            have c165 := (Exa.wr W157 fj92_7)
            have c166 := (Exa.wr W157 fj92_9)
            exact j108  T157 h157 _ X157 e157 N157 Z157 c158 c159 c160 c161 c162 c163 c164 c165 Y157 c166  
          · refine Done.st (B := Tj92.setTop (mkF m 108 #[.val (.int x0), .val (.int x1), .val (.int x2), .val (.int x3), .val (.int x4), .val (.int x5), .val (.int cnt), .val (.int na), .val (.int nb), .val (.int nc), .val (.int nd), .val (.ref b1), .val (.ref b2), .val (.ref b4), .val (.ref b7), .unset, .unset, .unset, .unset, .unset, .unset, .unset, .unset] [])) (fun _ k => XS.ifYes Xj92.here hx rfl (pc0 := 94) (pc' := 108) rfl (hb hby at_94) rfl ((if0 _ _).trans (flt hc94).2.2.2) (by decide) (by decide) k) ?_
            exact j108  Tj92 hj92 _ Xj92 ej92 Nj92 Zj92 fj92_0 fj92_1 fj92_2 fj92_3 fj92_4 fj92_5 fj92_6 fj92_7 fj92_8 fj92_9  
        refine Done.st (B := Tj80.setTop (mkF m 82 #[.val (.int x0), .val (.int x1), .val (.int x2), .val (.int x3), .val (.int x4), .val (.int x5), .val (.int cnt), .val (.int na), .val (.int nb), .val (.int nc), .val (.int nd), .val (.ref b1), .val (.ref b2), .val (.ref b4), .val (.ref b7), .unset, .unset, .unset, .unset, .unset, .unset, .unset, .unset] [(.int nc)])) (fun _ k => XS.iload Xj80.here hx rfl (hb hby at_80) rfl k) ?_
        by_cases hc82 : (0 : Int32) < nc
        · refine Done.st (B := Tj80.setTop (mkF m 85 #[.val (.int x0), .val (.int x1), .val (.int x2), .val (.int x3), .val (.int x4), .val (.int x5), .val (.int cnt), .val (.int na), .val (.int nb), .val (.int nc), .val (.int nd), .val (.ref b1), .val (.ref b2), .val (.ref b4), .val (.ref b7), .unset, .unset, .unset, .unset, .unset, .unset, .unset, .unset] [])) (fun _ k => XS.ifNo Xj80.here hx rfl (hb hby at_82) rfl ((if0 _ _).trans (tlt hc82).2.2.2) k) ?_
          refine Done.st (B := Tj80.setTop (mkF m 87 #[.val (.int x0), .val (.int x1), .val (.int x2), .val (.int x3), .val (.int x4), .val (.int x5), .val (.int cnt), .val (.int na), .val (.int nb), .val (.int nc), .val (.int nd), .val (.ref b1), .val (.ref b2), .val (.ref b4), .val (.ref b7), .unset, .unset, .unset, .unset, .unset, .unset, .unset, .unset] [(.ref b4)])) (fun _ k => XS.aload Xj80.here hx rfl (hb hby at_85) rfl rfl k) ?_
          refine Done.st (B := Tj80.setTop (mkF m 88 #[.val (.int x0), .val (.int x1), .val (.int x2), .val (.int x3), .val (.int x4), .val (.int x5), .val (.int cnt), .val (.int na), .val (.int nb), .val (.int nc), .val (.int nd), .val (.ref b1), .val (.ref b2), .val (.ref b4), .val (.ref b7), .unset, .unset, .unset, .unset, .unset, .unset, .unset, .unset] [(.int (0 : Int32)), (.ref b4)])) (fun _ k => XS.iconst Xj80.here hx rfl (hb hby at_87) k) ?_
          refine Done.st (B := Tj80.setTop (mkF m 90 #[.val (.int x0), .val (.int x1), .val (.int x2), .val (.int x3), .val (.int x4), .val (.int x5), .val (.int cnt), .val (.int na), .val (.int nb), .val (.int nc), .val (.int nd), .val (.ref b1), .val (.ref b2), .val (.ref b4), .val (.ref b7), .unset, .unset, .unset, .unset, .unset, .unset, .unset, .unset] [(.int x5), (.int (0 : Int32)), (.ref b4)])) (fun _ k => XS.iload Xj80.here hx rfl (hb hby at_88) rfl k) ?_
          refine Done.st (B := Tj80.setTop (mkF m 91 #[.val (.int x0), .val (.int x1), .val (.int x2), .val (.int x3), .val (.int x4), .val (.int x5), .val (.int cnt), .val (.int na), .val (.int nb), .val (.int nc), .val (.int nd), .val (.ref b1), .val (.ref b2), .val (.ref b4), .val (.ref b7), .unset, .unset, .unset, .unset, .unset, .unset, .unset, .unset] [(.int (-x5)), (.int (0 : Int32)), (.ref b4)])) (fun _ k => XS.ineg Xj80.here hx rfl (hb hby at_90) rfl k) ?_
          obtain ⟨T167, h167, X167, e167, W167, Y167, st167⟩ := IA.store Xj80 hx hZ ej80 fj80_6 (j := (0 : Int32)) (own_b0 hc82) (g := (mkF m 91 #[.val (.int x0), .val (.int x1), .val (.int x2), .val (.int x3), .val (.int x4), .val (.int x5), .val (.int cnt), .val (.int na), .val (.int nb), .val (.int nc), .val (.int nd), .val (.ref b1), .val (.ref b2), .val (.ref b4), .val (.ref b7), .unset, .unset, .unset, .unset, .unset, .unset, .unset, .unset] [(.int (-x5)), (.int (0 : Int32)), (.ref b4)])) rfl rfl (hb hby at_91)
          have N167 := Fr.snoc X167 Nj80 ge_b4
          have Z167 : n0 ≤ h167.size := Nat.le_trans Zj80 (Keep.of_wr W167).1
          refine Done.st (B := T167.setTop (mkF m 92 #[.val (.int x0), .val (.int x1), .val (.int x2), .val (.int x3), .val (.int x4), .val (.int x5), .val (.int cnt), .val (.int na), .val (.int nb), .val (.int nc), .val (.int nd), .val (.ref b1), .val (.ref b2), .val (.ref b4), .val (.ref b7), .unset, .unset, .unset, .unset, .unset, .unset, .unset, .unset] [])) (fun _ k => st167 _ k) ?_
          have c168 := (Sta.wr W167 fj80_0)
          have c169 := (fj80_1.other W167 ne_w_D_b4)
          have c170 := (fj80_2.other W167 ne_b1_b4)
          have c171 := (Exa.wr W167 fj80_3)
          have c172 := (fj80_4.other W167 ne_b2_b4)
          have c173 := (Exa.wr W167 fj80_5)
          have c174 := (Exa.wr W167 fj80_7)
          have c175 := (fj80_8.other W167 (Ne.symm ne_b4_b7))
          have c176 := (Exa.wr W167 fj80_9)
          exact j92  T167 h167 _ X167 e167 N167 Z167 c168 c169 c170 c171 c172 c173 Y167 c174 c175 c176  
        · refine Done.st (B := Tj80.setTop (mkF m 92 #[.val (.int x0), .val (.int x1), .val (.int x2), .val (.int x3), .val (.int x4), .val (.int x5), .val (.int cnt), .val (.int na), .val (.int nb), .val (.int nc), .val (.int nd), .val (.ref b1), .val (.ref b2), .val (.ref b4), .val (.ref b7), .unset, .unset, .unset, .unset, .unset, .unset, .unset, .unset] [])) (fun _ k => XS.ifYes Xj80.here hx rfl (pc0 := 82) (pc' := 92) rfl (hb hby at_82) rfl ((if0 _ _).trans (flt hc82).2.2.2) (by decide) (by decide) k) ?_
          exact j92  Tj80 hj80 _ Xj80 ej80 Nj80 Zj80 fj80_0 fj80_1 fj80_2 fj80_3 fj80_4 fj80_5 fj80_6 fj80_7 fj80_8 fj80_9  
      refine Done.st (B := Tj66.setTop (mkF m 68 #[.val (.int x0), .val (.int x1), .val (.int x2), .val (.int x3), .val (.int x4), .val (.int x5), .val (.int cnt), .val (.int na), .val (.int nb), .val (.int nc), .val (.int nd), .val (.ref b1), .val (.ref b2), .val (.ref b4), .val (.ref b7), .unset, .unset, .unset, .unset, .unset, .unset, .unset, .unset] [(.int nb)])) (fun _ k => XS.iload Xj66.here hx rfl (hb hby at_66) rfl k) ?_
      by_cases hc68 : (0 : Int32) < nb
      · refine Done.st (B := Tj66.setTop (mkF m 71 #[.val (.int x0), .val (.int x1), .val (.int x2), .val (.int x3), .val (.int x4), .val (.int x5), .val (.int cnt), .val (.int na), .val (.int nb), .val (.int nc), .val (.int nd), .val (.ref b1), .val (.ref b2), .val (.ref b4), .val (.ref b7), .unset, .unset, .unset, .unset, .unset, .unset, .unset, .unset] [])) (fun _ k => XS.ifNo Xj66.here hx rfl (hb hby at_68) rfl ((if0 _ _).trans (tlt hc68).2.2.2) k) ?_
        refine Done.st (B := Tj66.setTop (mkF m 73 #[.val (.int x0), .val (.int x1), .val (.int x2), .val (.int x3), .val (.int x4), .val (.int x5), .val (.int cnt), .val (.int na), .val (.int nb), .val (.int nc), .val (.int nd), .val (.ref b1), .val (.ref b2), .val (.ref b4), .val (.ref b7), .unset, .unset, .unset, .unset, .unset, .unset, .unset, .unset] [(.ref b2)])) (fun _ k => XS.aload Xj66.here hx rfl (hb hby at_71) rfl rfl k) ?_
        refine Done.st (B := Tj66.setTop (mkF m 75 #[.val (.int x0), .val (.int x1), .val (.int x2), .val (.int x3), .val (.int x4), .val (.int x5), .val (.int cnt), .val (.int na), .val (.int nb), .val (.int nc), .val (.int nd), .val (.ref b1), .val (.ref b2), .val (.ref b4), .val (.ref b7), .unset, .unset, .unset, .unset, .unset, .unset, .unset, .unset] [(.int nb), (.ref b2)])) (fun _ k => XS.iload Xj66.here hx rfl (hb hby at_73) rfl k) ?_
        refine Done.st (B := Tj66.setTop (mkF m 76 #[.val (.int x0), .val (.int x1), .val (.int x2), .val (.int x3), .val (.int x4), .val (.int x5), .val (.int cnt), .val (.int na), .val (.int nb), .val (.int nc), .val (.int nd), .val (.ref b1), .val (.ref b2), .val (.ref b4), .val (.ref b7), .unset, .unset, .unset, .unset, .unset, .unset, .unset, .unset] [(.int (1 : Int32)), (.int nb), (.ref b2)])) (fun _ k => XS.iconst Xj66.here hx rfl (hb hby at_75) k) ?_
        refine Done.st (B := Tj66.setTop (mkF m 77 #[.val (.int x0), .val (.int x1), .val (.int x2), .val (.int x3), .val (.int x4), .val (.int x5), .val (.int cnt), .val (.int na), .val (.int nb), .val (.int nc), .val (.int nd), .val (.ref b1), .val (.ref b2), .val (.ref b4), .val (.ref b7), .unset, .unset, .unset, .unset, .unset, .unset, .unset, .unset] [(.int (nb - (1 : Int32))), (.ref b2)])) (fun _ k => XS.isub Xj66.here hx rfl (hb hby at_76) rfl k) ?_
        refine Done.st (B := Tj66.setTop (mkF m 79 #[.val (.int x0), .val (.int x1), .val (.int x2), .val (.int x3), .val (.int x4), .val (.int x5), .val (.int cnt), .val (.int na), .val (.int nb), .val (.int nc), .val (.int nd), .val (.ref b1), .val (.ref b2), .val (.ref b4), .val (.ref b7), .unset, .unset, .unset, .unset, .unset, .unset, .unset, .unset] [(.int x5), (.int (nb - (1 : Int32))), (.ref b2)])) (fun _ k => XS.iload Xj66.here hx rfl (hb hby at_77) rfl k) ?_
        obtain ⟨T177, h177, X177, e177, W177, Y177, st177⟩ := IA.store Xj66 hx hZ ej66 fj66_4 (j := (nb - (1 : Int32))) (own_b1 hc68) (g := (mkF m 79 #[.val (.int x0), .val (.int x1), .val (.int x2), .val (.int x3), .val (.int x4), .val (.int x5), .val (.int cnt), .val (.int na), .val (.int nb), .val (.int nc), .val (.int nd), .val (.ref b1), .val (.ref b2), .val (.ref b4), .val (.ref b7), .unset, .unset, .unset, .unset, .unset, .unset, .unset, .unset] [(.int x5), (.int (nb - (1 : Int32))), (.ref b2)])) rfl rfl (hb hby at_79)
        have N177 := Fr.snoc X177 Nj66 ge_b2
        have Z177 : n0 ≤ h177.size := Nat.le_trans Zj66 (Keep.of_wr W177).1
        refine Done.st (B := T177.setTop (mkF m 80 #[.val (.int x0), .val (.int x1), .val (.int x2), .val (.int x3), .val (.int x4), .val (.int x5), .val (.int cnt), .val (.int na), .val (.int nb), .val (.int nc), .val (.int nd), .val (.ref b1), .val (.ref b2), .val (.ref b4), .val (.ref b7), .unset, .unset, .unset, .unset, .unset, .unset, .unset, .unset] [])) (fun _ k => st177 _ k) ?_
        have c178 := (Sta.wr W177 fj66_0)
        have c179 := (fj66_1.other W177 ne_w_D_b2)
        have c180 := (fj66_2.other W177 ne_b1_b2)
        have c181 := (Exa.wr W177 fj66_3)
        have c182 := (Exa.wr W177 fj66_5)
        have c183 := (fj66_6.other W177 (Ne.symm ne_b2_b4))
        have c184 := (Exa.wr W177 fj66_7)
        have c185 := (fj66_8.other W177 (Ne.symm ne_b2_b7))
        have c186 := (Exa.wr W177 fj66_9)
        exact j80  T177 h177 _ X177 e177 N177 Z177 c178 c179 c180 c181 Y177 c182 c183 c184 c185 c186  
      · refine Done.st (B := Tj66.setTop (mkF m 80 #[.val (.int x0), .val (.int x1), .val (.int x2), .val (.int x3), .val (.int x4), .val (.int x5), .val (.int cnt), .val (.int na), .val (.int nb), .val (.int nc), .val (.int nd), .val (.ref b1), .val (.ref b2), .val (.ref b4), .val (.ref b7), .unset, .unset, .unset, .unset, .unset, .unset, .unset, .unset] [])) (fun _ k => XS.ifYes Xj66.here hx rfl (pc0 := 68) (pc' := 80) rfl (hb hby at_68) rfl ((if0 _ _).trans (flt hc68).2.2.2) (by decide) (by decide) k) ?_
        exact j80  Tj66 hj66 _ Xj66 ej66 Nj66 Zj66 fj66_0 fj66_1 fj66_2 fj66_3 fj66_4 fj66_5 fj66_6 fj66_7 fj66_8 fj66_9  
    refine Done.st (B := T7.setTop (mkF m 57 #[.val (.int x0), .val (.int x1), .val (.int x2), .val (.int x3), .val (.int x4), .val (.int x5), .val (.int cnt), .val (.int na), .val (.int nb), .val (.int nc), .val (.int nd), .val (.ref b1), .val (.ref b2), .val (.ref b4), .val (.ref b7), .unset, .unset, .unset, .unset, .unset, .unset, .unset, .unset] [(.int na)])) (fun _ k => XS.iload X7.here hx rfl (hb hby at_55) rfl k) ?_
    by_cases hc57 : (0 : Int32) < na
    · refine Done.st (B := T7.setTop (mkF m 60 #[.val (.int x0), .val (.int x1), .val (.int x2), .val (.int x3), .val (.int x4), .val (.int x5), .val (.int cnt), .val (.int na), .val (.int nb), .val (.int nc), .val (.int nd), .val (.ref b1), .val (.ref b2), .val (.ref b4), .val (.ref b7), .unset, .unset, .unset, .unset, .unset, .unset, .unset, .unset] [])) (fun _ k => XS.ifNo X7.here hx rfl (hb hby at_57) rfl ((if0 _ _).trans (tlt hc57).2.2.2) k) ?_
      refine Done.st (B := T7.setTop (mkF m 62 #[.val (.int x0), .val (.int x1), .val (.int x2), .val (.int x3), .val (.int x4), .val (.int x5), .val (.int cnt), .val (.int na), .val (.int nb), .val (.int nc), .val (.int nd), .val (.ref b1), .val (.ref b2), .val (.ref b4), .val (.ref b7), .unset, .unset, .unset, .unset, .unset, .unset, .unset, .unset] [(.ref b1)])) (fun _ k => XS.aload X7.here hx rfl (hb hby at_60) rfl rfl k) ?_
      refine Done.st (B := T7.setTop (mkF m 63 #[.val (.int x0), .val (.int x1), .val (.int x2), .val (.int x3), .val (.int x4), .val (.int x5), .val (.int cnt), .val (.int na), .val (.int nb), .val (.int nc), .val (.int nd), .val (.ref b1), .val (.ref b2), .val (.ref b4), .val (.ref b7), .unset, .unset, .unset, .unset, .unset, .unset, .unset, .unset] [(.int (0 : Int32)), (.ref b1)])) (fun _ k => XS.iconst X7.here hx rfl (hb hby at_62) k) ?_
      refine Done.st (B := T7.setTop (mkF m 65 #[.val (.int x0), .val (.int x1), .val (.int x2), .val (.int x3), .val (.int x4), .val (.int x5), .val (.int cnt), .val (.int na), .val (.int nb), .val (.int nc), .val (.int nd), .val (.ref b1), .val (.ref b2), .val (.ref b4), .val (.ref b7), .unset, .unset, .unset, .unset, .unset, .unset, .unset, .unset] [(.int x5), (.int (0 : Int32)), (.ref b1)])) (fun _ k => XS.iload X7.here hx rfl (hb hby at_63) rfl k) ?_
      have c188 := (c9.ext E7)
      obtain ⟨T187, h187, X187, e187, W187, Y187, st187⟩ := IA.store X7 hx hZ e7 c188 (j := (0 : Int32)) (own_b0 hc57) (g := (mkF m 65 #[.val (.int x0), .val (.int x1), .val (.int x2), .val (.int x3), .val (.int x4), .val (.int x5), .val (.int cnt), .val (.int na), .val (.int nb), .val (.int nc), .val (.int nd), .val (.ref b1), .val (.ref b2), .val (.ref b4), .val (.ref b7), .unset, .unset, .unset, .unset, .unset, .unset, .unset, .unset] [(.int x5), (.int (0 : Int32)), (.ref b1)])) rfl rfl (hb hby at_65)
      have N187 := Fr.snoc X187 N0 ge_b1
      have Z187 : n0 ≤ h187.size := Nat.le_trans Z7 (Keep.of_wr W187).1
      refine Done.st (B := T187.setTop (mkF m 66 #[.val (.int x0), .val (.int x1), .val (.int x2), .val (.int x3), .val (.int x4), .val (.int x5), .val (.int cnt), .val (.int na), .val (.int nb), .val (.int nc), .val (.int nd), .val (.ref b1), .val (.ref b2), .val (.ref b4), .val (.ref b7), .unset, .unset, .unset, .unset, .unset, .unset, .unset, .unset] [])) (fun _ k => st187 _ k) ?_
      have c189 := (Sta.wr W187 (Sta.ext E7 (Sta.ext E4 (Sta.ext E2 (Sta.ext E1 S_D)))))
      have c190 := ((c8.ext E7).other W187 ne_w_D_b1)
      have c191 := (Exa.wr W187 (Exa.ext E7 (Exa.ext E4 (Exa.ext E2 Ex1))))
      have c192 := ((c10.ext E7).other W187 (Ne.symm ne_b1_b2))
      have c193 := (Exa.wr W187 (Exa.ext E7 (Exa.ext E4 Ex2)))
      have c194 := ((Y4.ext E7).other W187 (Ne.symm ne_b1_b4))
      have c195 := (Exa.wr W187 (Exa.ext E7 Ex4))
      have c196 := (Y7.other W187 (Ne.symm ne_b1_b7))
      have c197 := (Exa.wr W187 Ex7)
      exact j66  T187 h187 _ X187 e187 N187 Z187 c189 c190 Y187 c191 c192 c193 c194 c195 c196 c197  
    · refine Done.st (B := T7.setTop (mkF m 66 #[.val (.int x0), .val (.int x1), .val (.int x2), .val (.int x3), .val (.int x4), .val (.int x5), .val (.int cnt), .val (.int na), .val (.int nb), .val (.int nc), .val (.int nd), .val (.ref b1), .val (.ref b2), .val (.ref b4), .val (.ref b7), .unset, .unset, .unset, .unset, .unset, .unset, .unset, .unset] [])) (fun _ k => XS.ifYes X7.here hx rfl (pc0 := 57) (pc' := 66) rfl (hb hby at_57) rfl ((if0 _ _).trans (flt hc57).2.2.2) (by decide) (by decide) k) ?_
      have c198 := (Sta.ext E7 (Sta.ext E4 (Sta.ext E2 (Sta.ext E1 S_D))))
      have c199 := (c8.ext E7)
      have c200 := (c9.ext E7)
      have c201 := (Exa.ext E7 (Exa.ext E4 (Exa.ext E2 Ex1)))
      have c202 := (c10.ext E7)
      have c203 := (Exa.ext E7 (Exa.ext E4 Ex2))
      have c204 := (Y4.ext E7)
      have c205 := (Exa.ext E7 Ex4)
      exact j66  T7 h7 _ X7 e7 N0 Z7 c198 c199 c200 c201 c202 c203 c204 c205 Y7 Ex7  
  refine Done.st (B := s₁.setTop (mkF m 31 #[.val (.int x0), .val (.int x1), .val (.int x2), .val (.int x3), .val (.int x4), .val (.int x5), .val (.int (x0 &&& (7 : Int32))), .val (.int (x1 &&& (7 : Int32))), .val (.int (x2 &&& (7 : Int32))), .val (.int (x3 &&& (7 : Int32))), .val (.int (x4 &&& (7 : Int32))), .unset, .unset, .unset, .unset, .unset, .unset, .unset, .unset, .unset, .unset, .unset, .unset] [])) (fun _ k => XS.istore X0.here hx rfl (hb hby at_29) rfl (l' := #[.val (.int x0), .val (.int x1), .val (.int x2), .val (.int x3), .val (.int x4), .val (.int x5), .val (.int (x0 &&& (7 : Int32))), .val (.int (x1 &&& (7 : Int32))), .val (.int (x2 &&& (7 : Int32))), .val (.int (x3 &&& (7 : Int32))), .val (.int (x4 &&& (7 : Int32))), .unset, .unset, .unset, .unset, .unset, .unset, .unset, .unset, .unset, .unset, .unset, .unset]) rfl k) ?_
  exact j31 (x0 &&& (7 : Int32)) (x1 &&& (7 : Int32)) (x2 &&& (7 : Int32)) (x3 &&& (7 : Int32)) (x4 &&& (7 : Int32)) (own_m7 _) (own_m7 _) (own_m7 _) (own_m7 _) (own_m7 _)
set_option maxRecDepth 65536 in
set_option maxHeartbeats 40000000 in
theorem comes_1 {Post : Tables → Env → Array Value → State → Outcome → State → Prop} (hpost : ∀ tb e args s v u, (limb_1_1.after args s (.returned v) u = true ∧ limb_1_2.after args s (.returned v) u = true ∧ True) → FrameEnd s (.returned v) u (Jvm.fieldLocs frame_1_writes args s ++ Jvm.arrayLocs frame_1_arrays args s ++ Jvm.staticLocs frame_1_statics s) 32 256 → Post tb e args s (.returned v) u) :
    ArmFor flags0 classFile x code maxLocals ret World_1 tables_1 room_1 Calls_1 rest_1 Pre_1 Post := by
  intro l hfl _ _ p e ha hc hk s m args below hf hA hF happ hP
  obtain ⟨hcalls, hrest, hpre⟩ := hP
  obtain ⟨-, -, -, hnamed, -, -, -, hat⟩ := (Spec.applies_iff hf).mp happ
  obtain ⟨hg, hn⟩ := and_e (Cond.before_iff.mp (show (Jvm.Cond.and given_1 narrow_1).before args s = true from hpre))
  obtain ⟨g1, g2⟩ := and_e hg
  obtain ⟨g3, g4⟩ := and_e g2
  obtain ⟨g5, g6⟩ := and_e g4
  obtain ⟨g7, g8⟩ := and_e g6
  obtain ⟨g9, g10⟩ := and_e g8
  obtain ⟨g11, g12⟩ := and_e g10
  obtain ⟨w0, w1, w2, w3, w4, w5, rfl⟩ : ∃ w0 w1 w2 w3 w4 w5 : Value, args = #[w0, w1, w2, w3, w4, w5] := by
    have hs : args.size = 6 := by simpa [Cond.value, given_1] using g1
    obtain ⟨L⟩ := args
    match L, hs with
    | [w0, w1, w2, w3, w4, w5], _ => exact ⟨w0, w1, w2, w3, w4, w5, rfl⟩
  have hw := fun d (hd : d ∈ tables_1) => atoms_spec (ws := Jvm.Cond.code x code maxLocals ret :: tables_1) hat d (List.mem_cons_of_mem _ hd)
  have hfit : Fit s := fun {y c} hc i hi => by
    obtain ⟨ha, rfl⟩ := Array.getElem?_eq_some_iff.mp hc
    have q := List.all_eq_true.mp ((Array.all_eq_true_iff_forall_mem.mp hF) _ (Array.getElem_mem ha)) i (List.mem_range.mpr hi)
    simpa [Array.getElem?_eq_getElem hi] using q
  obtain ⟨hsets, hown0⟩ := atoms_of _ (rest_1_c_eq ▸ (show rest_1_c.before _ s = true from hrest))
  have hr0 := Cond.before_iff.mp hown0
  obtain ⟨i0, ei0⟩ := is_v g3
  obtain rfl : w0 = (.int i0) := Option.some.inj ei0
  obtain ⟨i1, ei1⟩ := is_v g5
  obtain rfl : w1 = (.int i1) := Option.some.inj ei1
  obtain ⟨i2, ei2⟩ := is_v g7
  obtain rfl : w2 = (.int i2) := Option.some.inj ei2
  obtain ⟨i3, ei3⟩ := is_v g9
  obtain rfl : w3 = (.int i3) := Option.some.inj ei3
  obtain ⟨i4, ei4⟩ := is_v g11
  obtain rfl : w4 = (.int i4) := Option.some.inj ei4
  obtain ⟨i5, ei5⟩ := is_v g12
  obtain rfl : w5 = (.int i5) := Option.some.inj ei5
  obtain ⟨w_D, ev_D⟩ := arr_v (Cond.before_iff.mp (hsets _ (List.mem_of_getElem? (i := 6) rfl)))
  have S_D := Sta.start ev_D (Or.inr ⟨(hw _ (List.mem_of_getElem? (i := 3) rfl)), hsets _ (List.mem_of_getElem? (i := 2) rfl)⟩)
  obtain ⟨c_D, A_D⟩ := Arr.start ev_D (Cond.before_iff.mp (hsets _ (List.mem_of_getElem? (i := 6) rfl)))
  have z_D := own_len0 ev_D A_D (Cond.before_iff.mp (hsets _ (List.mem_of_getElem? (i := 8) rfl)))
  have V_D : Arv s s.heap w_D c_D.cls (.object "java/lang/Object") (0 : Int32) [] .null := Arv.start hfit A_D (by omega) (by rw [z_D]; rfl) (by decide) rfl trivial
  obtain ⟨n, o, h1, h2, h3, _, L, rfl, ⟨rfl, N⟩, hq⟩ := rm0 l s _ hw tables_1 i0 i1 i2 i3 i4 i5 w_D c_D.cls s.heap s.heap.size (Nat.le_refl _) S_D V_D p e ha hc hk s m _ below hf ((Spec.applies_iff_loose hf).mp happ).1 ⟨rfl, State.Warmed39.refl s, rfl⟩ trivial
  refine ⟨n, _, h1, h2, h3, hpost _ _ _ _ _ _ ⟨Cond.after_iff.mpr rfl, Cond.after_iff.mpr (eq_i res_at (Term.int_eval (1)) rfl), trivial⟩ ⟨hq.1, hq.2.1, (hq.2.2.sift fun y hy => Or.inr (N y hy)).mono (by decide) (by decide)⟩⟩
theorem main_1_1 : Claimed_1_1 := comes_1 fun _ _ _ _ _ _ h hF => ⟨h.1, hF⟩
theorem main_1_2 : Claimed_1_2 := comes_1 fun _ _ _ _ _ _ h hF => ⟨h.2.1, hF⟩
end Jvm.Pilot.@@N@@
namespace Jvm.Pilot.@@N@@
open Jvm Jvm.ClassFile Sem Op Lib Jvm.Free Jvm.Stand Jvm.Pilot.@@N@@.Jvm.D
/-! MADE BY PROGRAM (witnessworld.py) out of the Statement's table words and the real class files: 21 classes; the members and pool entries that the words name. The judged class is class 1, her method 1. -/
namespace start1
open Jvm.ClassFile
def u (s : String) : CpInfo := .utf8 (stringToUtf16 s)
/-- a pool by its gaps: so many unusable entries, then the entry; so many at the end -/
def gap : Nat → List CpInfo → List CpInfo
  | 0, r => r
  | n + 1, r => .unusable :: gap n r
def poolList (es : List (Nat × CpInfo)) (last : Nat) : List CpInfo := es.foldr (fun e r => gap e.1 (e.2 :: r)) (gap last [])
def pool (es : List (Nat × CpInfo)) (last : Nat) : Array CpInfo := ⟨poolList es last⟩
def fileOf (pool : Array CpInfo) (this : Nat) (attrs : Array Attribute := #[]) (ms : Array MethodInfo := #[]) (fl : Nat := 33) (sup : Nat := 0) (ifs : Array Nat := #[]) (fds : Array FieldInfo := #[]) : ClassFile where
  minorVersion := 0
  majorVersion := 65
  constantPool := pool
  accessFlags := fl
  thisClass := this
  superClass := sup
  interfaces := ifs
  fields := fds
  methods := ms
  attributes := attrs
def plain (name : String) (sup : Option ClassId) : Class where
  name := name
  kind := .ordinary
  loader := none
  accessFlags := 33
  super := sup
  interfaces := #[]
  cf := none
  fields := #[]
  methods := #[]
  instanceTypes := #[]
  staticTypes := #[]
  resolved := #[]
  callSites := []
  init := .initialized
  statics := none
  mirror := none

def pool0 : Array CpInfo := pool [(5, u "<init>"), (0, u "()V"), (1, .class_ 10), (1, u "java/lang/Object"), (85, u "clone"), (0, u "()Ljava/lang/Object;")] 26

def k0c0 : Code := { maxStack := 0, maxLocals := 1, code := object_method_1_code, exceptionTable := #[], attributes := #[] }
def k0m0 : Method := { name := "<init>", desc := "()V", sig := { parameters := [], returnType := none }, accessFlags := 1, code := some k0c0 }
def k0m1 : Method := { name := "clone", desc := "()Ljava/lang/Object;", sig := { parameters := [], returnType := some (.object "java/lang/Object") }, accessFlags := 260, code := none }
/-- java/lang/Object -/
def k0 : Class := { plain "java/lang/Object" none with
  accessFlags := 33
  interfaces := #[]
  cf := some (fileOf pool0 8 #[] #[{ accessFlags := 1, nameIndex := 5, descriptorIndex := 6, attributes := #[] }, { accessFlags := 260, nameIndex := 96, descriptorIndex := 97, attributes := #[] }] 33 0 #[] #[])
  fields := #[]
  methods := #[k0m0, k0m1]
  instanceTypes := #[]
  staticTypes := #[]
  resolved := Array.replicate 124 none
  statics := none }

def pool1 : Array CpInfo := pool [(2, .class_ 4), (0, .nameAndType 5 6), (0, u "java/lang/Object"), (0, u "<init>"), (0, u "()V"), (0, .class_ 8), (0, u "java/util/ArrayList"), (0, .methodref 7 3), (0, .methodref 7 11), (0, .nameAndType 12 13), (0, u "add"), (0, u "(Ljava/lang/Object;)Z"), (0, .class_ 15), (0, u "com/example/percurso/percurso/suite/Suite"), (0, .methodref 14 17), (0, .nameAndType 5 18), (0, u "(Ljava/util/List;)V"), (0, .methodref 14 20), (0, .nameAndType 21 22), (0, u "inputCount"), (0, u "()J"), (0, .class_ 24), (0, u "com/example/percurso/percurso/suite/SuiteInputCountPinLaw"), (2, u "law"), (0, u "(IIIIII)Z")] 5

def k1m0 : Method := { name := "<init>", desc := "()V", sig := { parameters := [], returnType := none }, accessFlags := 1, code := none }
def k1c1 : Code := { maxStack := 4, maxLocals := 23, code := code, exceptionTable := #[], attributes := #[] }
def k1m1 : Method := { name := "law", desc := "(IIIIII)Z", sig := { parameters := [.int, .int, .int, .int, .int, .int], returnType := some .boolean }, accessFlags := 9, code := some k1c1 }
/-- com/example/percurso/percurso/suite/SuiteInputCountPinLaw -/
def k1 : Class := { plain "com/example/percurso/percurso/suite/SuiteInputCountPinLaw" (some 0) with
  accessFlags := 49
  interfaces := #[]
  cf := some (fileOf pool1 23 #[] #[{ accessFlags := 1, nameIndex := 5, descriptorIndex := 6, attributes := #[] }, { accessFlags := 9, nameIndex := 27, descriptorIndex := 28, attributes := #[] }] 49 2 #[] #[])
  fields := #[]
  methods := #[k1m0, k1m1]
  instanceTypes := #[]
  staticTypes := #[]
  resolved := Array.replicate 34 none
  statics := none }

def pool2 : Array CpInfo := pool [(8, .class_ 10), (1, u "java/lang/Iterable"), (24, .class_ 36), (0, u "java/lang/Object")] 25

/-- java/lang/Iterable -/
def k2 : Class := { plain "java/lang/Iterable" (some 0) with
  accessFlags := 1537
  interfaces := #[]
  cf := some (fileOf pool2 8 #[] #[] 1537 35 #[] #[])
  fields := #[]
  methods := #[]
  instanceTypes := #[]
  staticTypes := #[]
  resolved := Array.replicate 62 none
  statics := none }

def pool3 : Array CpInfo := pool [(10, .class_ 12), (1, u "java/util/Collection"), (47, .class_ 61), (0, u "java/lang/Object"), (0, .class_ 63), (0, u "java/lang/Iterable")] 51

/-- java/util/Collection -/
def k3 : Class := { plain "java/util/Collection" (some 0) with
  accessFlags := 1537
  interfaces := #[2]
  cf := some (fileOf pool3 10 #[] #[] 1537 60 #[62] #[])
  fields := #[]
  methods := #[]
  instanceTypes := #[]
  staticTypes := #[]
  resolved := Array.replicate 115 none
  statics := none }

def pool4 : Array CpInfo := pool [(1, .methodref 2 3), (0, .class_ 4), (0, .nameAndType 5 6), (0, u "java/lang/Object"), (0, u "<init>"), (0, u "()V"), (1, .class_ 10), (1, u "java/util/AbstractCollection"), (66, .class_ 78), (0, u "java/util/Collection")] 81

def k4c0 : Code := { maxStack := 1, maxLocals := 1, code := jdk_22_method_1_code, exceptionTable := #[], attributes := #[] }
def k4m0 : Method := { name := "<init>", desc := "()V", sig := { parameters := [], returnType := none }, accessFlags := 4, code := some k4c0 }
/-- java/util/AbstractCollection -/
def k4 : Class := { plain "java/util/AbstractCollection" (some 0) with
  accessFlags := 1057
  interfaces := #[3]
  cf := some (fileOf pool4 8 #[] #[{ accessFlags := 4, nameIndex := 5, descriptorIndex := 6, attributes := #[] }] 1057 2 #[77] #[])
  fields := #[]
  methods := #[k4m0]
  instanceTypes := #[]
  staticTypes := #[]
  resolved := Array.replicate 160 none
  statics := none }

def pool5 : Array CpInfo := pool [(8, .class_ 10), (1, u "java/util/SequencedCollection"), (15, .class_ 27), (0, u "java/lang/Object"), (0, .class_ 29), (0, u "java/util/Collection")] 27

/-- java/util/SequencedCollection -/
def k5 : Class := { plain "java/util/SequencedCollection" (some 0) with
  accessFlags := 1537
  interfaces := #[3]
  cf := some (fileOf pool5 8 #[] #[] 1537 26 #[28] #[])
  fields := #[]
  methods := #[]
  instanceTypes := #[]
  staticTypes := #[]
  resolved := Array.replicate 57 none
  statics := none }

def pool6 : Array CpInfo := pool [(8, .class_ 10), (1, u "java/util/List"), (64, u "get"), (0, u "(I)Ljava/lang/Object;"), (2, u "size"), (0, u "()I"), (22, .class_ 104), (0, u "java/lang/Object"), (15, .class_ 121), (0, u "java/util/SequencedCollection")] 129

def k6m0 : Method := { name := "size", desc := "()I", sig := { parameters := [], returnType := some .int }, accessFlags := 1025, code := none }
def k6m1 : Method := { name := "get", desc := "(I)Ljava/lang/Object;", sig := { parameters := [.int], returnType := some (.object "java/lang/Object") }, accessFlags := 1025, code := none }
/-- java/util/List -/
def k6 : Class := { plain "java/util/List" (some 0) with
  accessFlags := 1537
  interfaces := #[5]
  cf := some (fileOf pool6 8 #[] #[{ accessFlags := 1025, nameIndex := 79, descriptorIndex := 80, attributes := #[] }, { accessFlags := 1025, nameIndex := 75, descriptorIndex := 76, attributes := #[] }] 1537 103 #[120] #[])
  fields := #[]
  methods := #[k6m0, k6m1]
  instanceTypes := #[]
  staticTypes := #[]
  resolved := Array.replicate 251 none
  statics := none }

def pool7 : Array CpInfo := pool [(1, .methodref 2 3), (0, .class_ 4), (0, .nameAndType 5 6), (0, u "java/util/AbstractCollection"), (0, u "<init>"), (0, u "()V"), (0, .fieldref 8 9), (0, .class_ 10), (0, .nameAndType 11 12), (0, u "java/util/AbstractList"), (0, u "modCount"), (0, u "I"), (64, .class_ 78), (0, u "java/util/AbstractList$Itr"), (3, .class_ 83), (0, u "java/util/AbstractList$ListItr"), (9, .class_ 94), (0, u "java/util/AbstractList$RandomAccessSubList"), (3, .class_ 99), (0, u "java/util/AbstractList$SubList"), (33, .class_ 134), (0, u "java/util/List"), (73, .class_ 209), (0, u "java/util/AbstractList$SubList$1"), (0, .class_ 211), (0, u "java/util/AbstractList$RandomAccessSpliterator")] 6

def k7c0 : Code := { maxStack := 2, maxLocals := 1, code := jdk_39_method_1_code, exceptionTable := #[], attributes := #[] }
def k7m0 : Method := { name := "<init>", desc := "()V", sig := { parameters := [], returnType := none }, accessFlags := 4, code := some k7c0 }
/-- java/util/AbstractList -/
def k7 : Class := { plain "java/util/AbstractList" (some 4) with
  accessFlags := 1057
  interfaces := #[6]
  cf := some (fileOf pool7 8 #[.nestMembers #[93, 98, 208, 210, 82, 77]] #[{ accessFlags := 4, nameIndex := 5, descriptorIndex := 6, attributes := #[] }] 1057 2 #[133] #[{ accessFlags := 132, nameIndex := 11, descriptorIndex := 12, attributes := #[] }])
  fields := #[{ name := "modCount", type := .int, accessFlags := 132, slot := 0, constantValue := 0 }]
  methods := #[k7m0]
  instanceTypes := #[.int]
  staticTypes := #[]
  resolved := Array.replicate 218 none
  statics := none }

def pool8 : Array CpInfo := pool [(1, .class_ 2), (0, u "java/util/RandomAccess"), (0, .class_ 4), (0, u "java/lang/Object")] 2

/-- java/util/RandomAccess -/
def k8 : Class := { plain "java/util/RandomAccess" (some 0) with
  accessFlags := 1537
  interfaces := #[]
  cf := some (fileOf pool8 1 #[] #[] 1537 3 #[] #[])
  fields := #[]
  methods := #[]
  instanceTypes := #[]
  staticTypes := #[]
  resolved := Array.replicate 7 none
  statics := none }

def pool9 : Array CpInfo := pool [(1, .class_ 2), (0, u "java/lang/Cloneable"), (0, .class_ 4), (0, u "java/lang/Object")] 2

/-- java/lang/Cloneable -/
def k9 : Class := { plain "java/lang/Cloneable" (some 0) with
  accessFlags := 1537
  interfaces := #[]
  cf := some (fileOf pool9 1 #[] #[] 1537 3 #[] #[])
  fields := #[]
  methods := #[]
  instanceTypes := #[]
  staticTypes := #[]
  resolved := Array.replicate 7 none
  statics := none }

def pool10 : Array CpInfo := pool [(1, .class_ 2), (0, u "java/io/Serializable"), (0, .class_ 4), (0, u "java/lang/Object")] 2

/-- java/io/Serializable -/
def k10 : Class := { plain "java/io/Serializable" (some 0) with
  accessFlags := 1537
  interfaces := #[]
  cf := some (fileOf pool10 1 #[] #[] 1537 3 #[] #[])
  fields := #[]
  methods := #[]
  instanceTypes := #[]
  staticTypes := #[]
  resolved := Array.replicate 7 none
  statics := none }

def pool11 : Array CpInfo := pool [(1, .methodref 2 3), (0, .class_ 4), (0, .nameAndType 5 6), (0, u "java/util/AbstractList"), (0, u "<init>"), (0, u "()V"), (0, .class_ 8), (0, u "java/lang/Object"), (0, .fieldref 10 11), (0, .class_ 12), (0, .nameAndType 13 14), (0, u "java/util/ArrayList"), (0, u "elementData"), (0, u "[Ljava/lang/Object;"), (2, u "EMPTY_ELEMENTDATA"), (21, .fieldref 10 40), (0, .nameAndType 41 14), (0, u "DEFAULTCAPACITY_EMPTY_ELEMENTDATA"), (5, u "()[Ljava/lang/Object;"), (0, .fieldref 10 49), (0, .nameAndType 50 51), (0, u "size"), (0, u "I"), (11, .fieldref 10 64), (0, .nameAndType 65 51), (0, u "modCount"), (3, .methodref 10 70), (0, .nameAndType 71 72), (0, u "grow"), (0, u "(I)[Ljava/lang/Object;"), (6, .methodref 80 81), (0, .class_ 82), (0, .nameAndType 83 84), (0, u "java/lang/Math"), (0, u "max"), (0, u "(II)I"), (11, u "(Ljava/lang/Object;)Z"), (21, .methodref 119 120), (0, .class_ 121), (0, .nameAndType 122 84), (0, u "java/util/Objects"), (0, u "checkIndex"), (0, .methodref 10 124), (0, .nameAndType 13 125), (0, u "(I)Ljava/lang/Object;"), (3, .methodref 10 130), (0, .nameAndType 71 47), (0, .methodref 10 132), (0, .nameAndType 133 134), (0, u "add"), (0, u "(Ljava/lang/Object;[Ljava/lang/Object;I)V"), (13, .class_ 149), (0, u "java/util/List"), (36, u "()I"), (75, .class_ 263), (0, u "java/util/ArrayList$ListItr"), (3, .class_ 268), (0, u "java/util/ArrayList$Itr"), (7, .class_ 277), (0, u "java/util/ArrayList$SubList"), (12, .class_ 291), (0, u "java/util/ArrayList$ArrayListSpliterator"), (37, .class_ 330), (0, u "java/util/RandomAccess"), (0, .class_ 332), (0, u "java/lang/Cloneable"), (0, .class_ 334), (0, u "java/io/Serializable"), (0, u "serialVersionUID"), (0, u "J"), (3, u "DEFAULT_CAPACITY"), (40, u "get"), (118, .class_ 501), (0, u "java/util/ArrayList$SubList$2"), (0, .class_ 503), (0, u "java/util/ArrayList$SubList$1")] 5

def k11c0 : Code := { maxStack := 2, maxLocals := 1, code := jdk_38_method_2_code, exceptionTable := #[], attributes := #[] }
def k11m0 : Method := { name := "<init>", desc := "()V", sig := { parameters := [], returnType := none }, accessFlags := 1, code := some k11c0 }
def k11c1 : Code := { maxStack := 4, maxLocals := 4, code := jdk_38_method_6_code, exceptionTable := #[], attributes := #[] }
def k11m1 : Method := { name := "grow", desc := "(I)[Ljava/lang/Object;", sig := { parameters := [.int], returnType := some (.array (.object "java/lang/Object")) }, accessFlags := 2, code := some k11c1 }
def k11c2 : Code := { maxStack := 3, maxLocals := 1, code := jdk_38_method_7_code, exceptionTable := #[], attributes := #[] }
def k11m2 : Method := { name := "grow", desc := "()[Ljava/lang/Object;", sig := { parameters := [], returnType := some (.array (.object "java/lang/Object")) }, accessFlags := 2, code := some k11c2 }
def k11c3 : Code := { maxStack := 1, maxLocals := 1, code := jdk_38_method_8_code, exceptionTable := #[], attributes := #[] }
def k11m3 : Method := { name := "size", desc := "()I", sig := { parameters := [], returnType := some .int }, accessFlags := 1, code := some k11c3 }
def k11c4 : Code := { maxStack := 2, maxLocals := 2, code := jdk_38_method_18_code, exceptionTable := #[], attributes := #[] }
def k11m4 : Method := { name := "elementData", desc := "(I)Ljava/lang/Object;", sig := { parameters := [.int], returnType := some (.object "java/lang/Object") }, accessFlags := 0, code := some k11c4 }
def k11c5 : Code := { maxStack := 2, maxLocals := 2, code := jdk_38_method_20_code, exceptionTable := #[], attributes := #[] }
def k11m5 : Method := { name := "get", desc := "(I)Ljava/lang/Object;", sig := { parameters := [.int], returnType := some (.object "java/lang/Object") }, accessFlags := 1, code := some k11c5 }
def k11c6 : Code := { maxStack := 3, maxLocals := 4, code := jdk_38_method_24_code, exceptionTable := #[], attributes := #[] }
def k11m6 : Method := { name := "add", desc := "(Ljava/lang/Object;[Ljava/lang/Object;I)V", sig := { parameters := [(.object "java/lang/Object"), (.array (.object "java/lang/Object")), .int], returnType := none }, accessFlags := 2, code := some k11c6 }
def k11c7 : Code := { maxStack := 4, maxLocals := 2, code := jdk_38_method_25_code, exceptionTable := #[], attributes := #[] }
def k11m7 : Method := { name := "add", desc := "(Ljava/lang/Object;)Z", sig := { parameters := [(.object "java/lang/Object")], returnType := some .boolean }, accessFlags := 1, code := some k11c7 }
/-- java/util/ArrayList -/
def k11 : Class := { plain "java/util/ArrayList" (some 7) with
  accessFlags := 33
  interfaces := #[6, 8, 9, 10]
  cf := some (fileOf pool11 10 #[.nestMembers #[290, 276, 500, 502, 262, 267]] #[{ accessFlags := 1, nameIndex := 5, descriptorIndex := 6, attributes := #[] }, { accessFlags := 2, nameIndex := 71, descriptorIndex := 72, attributes := #[] }, { accessFlags := 2, nameIndex := 71, descriptorIndex := 47, attributes := #[] }, { accessFlags := 1, nameIndex := 50, descriptorIndex := 186, attributes := #[] }, { accessFlags := 0, nameIndex := 13, descriptorIndex := 125, attributes := #[] }, { accessFlags := 1, nameIndex := 381, descriptorIndex := 125, attributes := #[] }, { accessFlags := 2, nameIndex := 133, descriptorIndex := 134, attributes := #[] }, { accessFlags := 1, nameIndex := 133, descriptorIndex := 96, attributes := #[] }] 33 2 #[148, 329, 331, 333] #[{ accessFlags := 26, nameIndex := 335, descriptorIndex := 336, attributes := #[] }, { accessFlags := 26, nameIndex := 340, descriptorIndex := 51, attributes := #[] }, { accessFlags := 26, nameIndex := 17, descriptorIndex := 14, attributes := #[] }, { accessFlags := 26, nameIndex := 41, descriptorIndex := 14, attributes := #[] }, { accessFlags := 128, nameIndex := 13, descriptorIndex := 14, attributes := #[] }, { accessFlags := 2, nameIndex := 50, descriptorIndex := 51, attributes := #[] }])
  fields := #[{ name := "serialVersionUID", type := .long, accessFlags := 26, slot := 0, constantValue := 0 }, { name := "DEFAULT_CAPACITY", type := .int, accessFlags := 26, slot := 1, constantValue := 0 }, { name := "EMPTY_ELEMENTDATA", type := (.array (.object "java/lang/Object")), accessFlags := 26, slot := 2, constantValue := 0 }, { name := "DEFAULTCAPACITY_EMPTY_ELEMENTDATA", type := (.array (.object "java/lang/Object")), accessFlags := 26, slot := 3, constantValue := 0 }, { name := "elementData", type := (.array (.object "java/lang/Object")), accessFlags := 128, slot := 1, constantValue := 0 }, { name := "size", type := .int, accessFlags := 2, slot := 2, constantValue := 0 }]
  methods := #[k11m0, k11m1, k11m2, k11m3, k11m4, k11m5, k11m6, k11m7]
  instanceTypes := #[.int, (.array (.object "java/lang/Object")), .int]
  staticTypes := #[.long, .int, (.array (.object "java/lang/Object")), (.array (.object "java/lang/Object"))]
  resolved := Array.replicate 509 none
  statics := some 0 }

def pool12 : Array CpInfo := pool [(1, .methodref 2 3), (0, .class_ 4), (0, .nameAndType 5 6), (0, u "java/lang/Object"), (0, u "<init>"), (0, u "()V"), (0, .interfaceMethodref 8 9), (0, .class_ 10), (0, .nameAndType 11 12), (0, u "java/util/List"), (0, u "size"), (0, u "()I"), (0, .class_ 14), (0, u "[I"), (0, .fieldref 16 17), (0, .class_ 18), (0, .nameAndType 19 20), (0, u "com/example/percurso/percurso/suite/Suite"), (0, u "tests"), (0, u "[[I"), (0, .interfaceMethodref 8 22), (0, .nameAndType 23 24), (0, u "get"), (0, u "(I)Ljava/lang/Object;"), (0, .methodref 13 26), (0, .nameAndType 27 28), (0, u "clone"), (0, u "()Ljava/lang/Object;"), (26, u "(Ljava/util/List;)V"), (5, u "inputCount"), (0, u "()J")] 62

def k12c0 : Code := { maxStack := 4, maxLocals := 3, code := prog_192_method_1_code, exceptionTable := #[], attributes := #[] }
def k12m0 : Method := { name := "<init>", desc := "(Ljava/util/List;)V", sig := { parameters := [(.object "java/util/List")], returnType := none }, accessFlags := 1, code := some k12c0 }
def k12c1 : Code := { maxStack := 4, maxLocals := 7, code := prog_192_method_7_code, exceptionTable := #[], attributes := #[] }
def k12m1 : Method := { name := "inputCount", desc := "()J", sig := { parameters := [], returnType := some .long }, accessFlags := 1, code := some k12c1 }
/-- com/example/percurso/percurso/suite/Suite -/
def k12 : Class := { plain "com/example/percurso/percurso/suite/Suite" (some 0) with
  accessFlags := 49
  interfaces := #[]
  cf := some (fileOf pool12 16 #[] #[{ accessFlags := 1, nameIndex := 5, descriptorIndex := 55, attributes := #[] }, { accessFlags := 1, nameIndex := 61, descriptorIndex := 62, attributes := #[] }] 49 2 #[] #[{ accessFlags := 18, nameIndex := 19, descriptorIndex := 20, attributes := #[] }])
  fields := #[{ name := "tests", type := (.array (.array .int)), accessFlags := 18, slot := 0, constantValue := 0 }]
  methods := #[k12m0, k12m1]
  instanceTypes := #[(.array (.array .int))]
  staticTypes := #[]
  resolved := Array.replicate 125 none
  statics := none }

def pool13 : Array CpInfo := pool [(1, .class_ 2), (0, u "java/lang/Math"), (1, .class_ 6), (1, u "java/lang/Object"), (0, u "<init>"), (0, u "()V"), (89, .class_ 100), (1, u "java/lang/Math$RandomNumberGeneratorHolder"), (71, u "negativeZeroFloatBits"), (0, u "J"), (2, u "negativeZeroDoubleBits"), (21, u "max"), (46, u "$assertionsDisabled"), (0, u "Z"), (88, u "(II)I"), (2, u "twoToTheDoubleScaleDown"), (0, u "D"), (4, u "twoToTheDoubleScaleUp"), (9, u "E"), (3, u "PI"), (2, u "TAU"), (2, u "DEGREES_TO_RADIANS"), (0, u "RADIANS_TO_DEGREES")] 94

def k13m0 : Method := { name := "<init>", desc := "()V", sig := { parameters := [], returnType := none }, accessFlags := 2, code := none }
def k13c1 : Code := { maxStack := 2, maxLocals := 2, code := jdk_29_method_65_code, exceptionTable := #[], attributes := #[] }
def k13m1 : Method := { name := "max", desc := "(II)I", sig := { parameters := [.int, .int], returnType := some .int }, accessFlags := 9, code := some k13c1 }
/-- java/lang/Math -/
def k13 : Class := { plain "java/lang/Math" (some 0) with
  accessFlags := 49
  interfaces := #[]
  cf := some (fileOf pool13 1 #[.nestMembers #[98]] #[{ accessFlags := 2, nameIndex := 7, descriptorIndex := 8, attributes := #[] }, { accessFlags := 9, nameIndex := 198, descriptorIndex := 335, attributes := #[] }] 49 4 #[] #[{ accessFlags := 25, nameIndex := 354, descriptorIndex := 339, attributes := #[] }, { accessFlags := 25, nameIndex := 358, descriptorIndex := 339, attributes := #[] }, { accessFlags := 25, nameIndex := 361, descriptorIndex := 339, attributes := #[] }, { accessFlags := 26, nameIndex := 364, descriptorIndex := 339, attributes := #[] }, { accessFlags := 26, nameIndex := 365, descriptorIndex := 339, attributes := #[] }, { accessFlags := 26, nameIndex := 172, descriptorIndex := 173, attributes := #[] }, { accessFlags := 26, nameIndex := 176, descriptorIndex := 173, attributes := #[] }, { accessFlags := 8, nameIndex := 344, descriptorIndex := 339, attributes := #[] }, { accessFlags := 8, nameIndex := 338, descriptorIndex := 339, attributes := #[] }, { accessFlags := 4120, nameIndex := 245, descriptorIndex := 246, attributes := #[] }])
  fields := #[{ name := "E", type := .double, accessFlags := 25, slot := 0, constantValue := 0 }, { name := "PI", type := .double, accessFlags := 25, slot := 1, constantValue := 0 }, { name := "TAU", type := .double, accessFlags := 25, slot := 2, constantValue := 0 }, { name := "DEGREES_TO_RADIANS", type := .double, accessFlags := 26, slot := 3, constantValue := 0 }, { name := "RADIANS_TO_DEGREES", type := .double, accessFlags := 26, slot := 4, constantValue := 0 }, { name := "negativeZeroFloatBits", type := .long, accessFlags := 26, slot := 5, constantValue := 0 }, { name := "negativeZeroDoubleBits", type := .long, accessFlags := 26, slot := 6, constantValue := 0 }, { name := "twoToTheDoubleScaleUp", type := .double, accessFlags := 8, slot := 7, constantValue := 0 }, { name := "twoToTheDoubleScaleDown", type := .double, accessFlags := 8, slot := 8, constantValue := 0 }, { name := "$assertionsDisabled", type := .boolean, accessFlags := 4120, slot := 9, constantValue := 0 }]
  methods := #[k13m0, k13m1]
  instanceTypes := #[]
  staticTypes := #[.double, .double, .double, .double, .double, .long, .long, .double, .double, .boolean]
  resolved := Array.replicate 460 none
  statics := none }

def pool14 : Array CpInfo := pool [(2, .class_ 4), (1, u "java/lang/Object"), (0, u "<init>"), (0, u "()V"), (35, .class_ 44), (1, u "java/util/Objects"), (60, .methodref 106 107), (0, .class_ 108), (0, .nameAndType 109 110), (0, u "jdk/internal/util/Preconditions"), (0, u "checkIndex"), (0, u "(IILjava/util/function/BiFunction;)I"), (60, u "(II)I")] 12

def k14m0 : Method := { name := "<init>", desc := "()V", sig := { parameters := [], returnType := none }, accessFlags := 2, code := none }
def k14c1 : Code := { maxStack := 3, maxLocals := 2, code := jdk_31_method_17_code, exceptionTable := #[], attributes := #[] }
def k14m1 : Method := { name := "checkIndex", desc := "(II)I", sig := { parameters := [.int, .int], returnType := some .int }, accessFlags := 9, code := some k14c1 }
/-- java/util/Objects -/
def k14 : Class := { plain "java/util/Objects" (some 0) with
  accessFlags := 49
  interfaces := #[]
  cf := some (fileOf pool14 42 #[] #[{ accessFlags := 2, nameIndex := 5, descriptorIndex := 6, attributes := #[] }, { accessFlags := 9, nameIndex := 109, descriptorIndex := 171, attributes := #[] }] 49 2 #[] #[])
  fields := #[]
  methods := #[k14m0, k14m1]
  instanceTypes := #[]
  staticTypes := #[]
  resolved := Array.replicate 184 none
  statics := none }

def pool15 : Array CpInfo := pool [(2, .class_ 4), (1, u "java/lang/Object"), (0, u "<init>"), (0, u "()V"), (17, .class_ 26), (1, u "jdk/internal/util/Preconditions"), (6, u "checkIndex"), (21, .class_ 56), (0, u "jdk/internal/util/Preconditions$4"), (57, .class_ 115), (0, u "jdk/internal/util/Preconditions$1"), (7, u "SIOOBE_FORMATTER"), (0, u "Ljava/util/function/BiFunction;"), (0, .class_ 126), (0, u "jdk/internal/util/Preconditions$2"), (3, u "AIOOBE_FORMATTER"), (0, .class_ 132), (0, u "jdk/internal/util/Preconditions$3"), (3, u "IOOBE_FORMATTER"), (41, u "(IILjava/util/function/BiFunction;)I")] 15

def k15m0 : Method := { name := "<init>", desc := "()V", sig := { parameters := [], returnType := none }, accessFlags := 1, code := none }
def k15c1 : Code := { maxStack := 3, maxLocals := 3, code := jdk_41_method_11_code, exceptionTable := #[], attributes := #[] }
def k15m1 : Method := { name := "checkIndex", desc := "(IILjava/util/function/BiFunction;)I", sig := { parameters := [.int, .int, (.object "java/util/function/BiFunction")], returnType := some .int }, accessFlags := 9, code := some k15c1 }
/-- jdk/internal/util/Preconditions -/
def k15 : Class := { plain "jdk/internal/util/Preconditions" (some 0) with
  accessFlags := 33
  interfaces := #[]
  cf := some (fileOf pool15 24 #[.nestMembers #[55, 131, 125, 114]] #[{ accessFlags := 1, nameIndex := 5, descriptorIndex := 6, attributes := #[] }, { accessFlags := 9, nameIndex := 33, descriptorIndex := 178, attributes := #[] }] 33 2 #[] #[{ accessFlags := 25, nameIndex := 123, descriptorIndex := 124, attributes := #[] }, { accessFlags := 25, nameIndex := 130, descriptorIndex := 124, attributes := #[] }, { accessFlags := 25, nameIndex := 136, descriptorIndex := 124, attributes := #[] }])
  fields := #[{ name := "SIOOBE_FORMATTER", type := (.object "java/util/function/BiFunction"), accessFlags := 25, slot := 0, constantValue := 0 }, { name := "AIOOBE_FORMATTER", type := (.object "java/util/function/BiFunction"), accessFlags := 25, slot := 1, constantValue := 0 }, { name := "IOOBE_FORMATTER", type := (.object "java/util/function/BiFunction"), accessFlags := 25, slot := 2, constantValue := 0 }]
  methods := #[k15m0, k15m1]
  instanceTypes := #[]
  staticTypes := #[(.object "java/util/function/BiFunction"), (.object "java/util/function/BiFunction"), (.object "java/util/function/BiFunction")]
  resolved := Array.replicate 194 none
  statics := none }

/-- the primitive byte -/
def k16 : Class := { plain "byte" none with kind := .primitive 'B', accessFlags := 0x411 }
/-- [B -/
def k17 : Class := { plain "[B" (some 0) with kind := .array 16 .byte, interfaces := #[9, 10], accessFlags := 1041 }

/-- the primitive int -/
def k18 : Class := { plain "int" none with kind := .primitive 'I', accessFlags := 0x411 }
/-- [I -/
def k19 : Class := { plain "[I" (some 0) with kind := .array 18 .int, interfaces := #[9, 10], accessFlags := 1041 }

/-- [Ljava/lang/Object; -/
def k20 : Class := { plain "[Ljava/lang/Object;" (some 0) with kind := .array 0 (.object "java/lang/Object"), interfaces := #[9, 10], accessFlags := 1041 }

/-- [[I -/
def k21 : Class := { plain "[[I" (some 0) with kind := .array 19 (.array .int), interfaces := #[9, 10], accessFlags := 1041 }
def heap : Heap := #[{ cls := 11, slots := #[.long 0, .int 0, .ref 1, .ref 2], vm := .statics 11 },
  { cls := 20, slots := #[], vm := .none },
  { cls := 20, slots := #[], vm := .none }]
def classes : Array Class := #[k0, k1, k2, k3, k4, k5, k6, k7, k8, k9, k10, k11, k12, k13, k14, k15, k16, k17, k18, k19, k20, k21]
def interned : List (Array UInt16 × Addr) := []
def slotsUsed : Nat := 4
def theMethod : MethodId := ⟨1, 1⟩
def args0 : Array Value := #[.int 2, .int 1, .int 2, .int 3, .int 4, .int 7]
def aboutOver (below : List Frame) : State where
  vm := { classes := classes, interned := interned.toArray }
  heap := heap
  slotsUsed := slotsUsed
  threads := #[{ frames := .invoking theMethod args0 :: below }]
def below0 : List Frame := [.native { method := ⟨0, 0⟩, args := #[] }]
def about1 : State := aboutOver below0
def p0 : Program := .bare "" "" ""
def e0 : Env := launch0.env 0 0 0
theorem w_frames : about1.frames = Frame.invoking theMethod args0 :: below0 := rfl
set_option maxRecDepth 65536 in
theorem w_args : argsFit about1.vm theMethod args0 = true := by decide +kernel
set_option maxRecDepth 65536 in
theorem w_heap : heapFits about1 = true := by decide +kernel
set_option maxRecDepth 65536 in
theorem w_runnable : about1.curStatus? = some .runnable := by decide +kernel
set_option maxRecDepth 65536 in
theorem w_alone : about1.alone = true := by decide +kernel
set_option maxRecDepth 65536 in
theorem w_named : about1.methodNamed? x = some theMethod := by decide +kernel
set_option maxRecDepth 65536 in
theorem w_hears : about1.hears theMethod below0 = true := by decide +kernel
set_option maxRecDepth 65536 in
theorem w_ripe : about1.ripe theMethod args0 below0 = true := by decide +kernel
theorem w_running : about1.status = .running := rfl
set_option maxRecDepth 65536 in
theorem w_room : about1.hasRoom e0.platform room_1 = true :=
  launch0.hasRoom_least _ room_1 (by decide +kernel) (by decide +kernel) (by decide +kernel) (by decide +kernel) (by decide +kernel) (by decide +kernel)
theorem allAtoms_all (ts : List Jvm.Cond) (a : Array Jvm.Value) (st : Jvm.State) : (allAtoms ts).before a st = ts.all (fun c => c.before a st) := by
  induction ts with
  | nil => rfl
  | cons c t ih =>
    show (Jvm.Cond.and c (allAtoms t)).before a st = _
    rw [Jvm.Cond.before_and, ih, List.all_cons]
def words1 : List Jvm.Cond := Jvm.Cond.code x code maxLocals ret :: tables_1
/-- a 'code' word, met by the world's own term for the bytes: nothing is compared byte by byte -/
theorem code_word {y : MethodName} {bytes : ByteArray} {mx : Nat} {rt : Option FieldType} {a : Array Value} {s : State} {m : MethodId} {meth : Method} {c : Code} (h1 : s.methodNamed? y = some m) (h2 : s.vm.method? m = some meth) (h3 : meth.code = some c) (h4 : c.code = bytes)
    (h5 : (c.maxLocals == mx && c.exceptionTable.isEmpty && decide (c.maxStack ≤ mostOperands) && decide (meth.sig.returnType = rt) && !meth.locks && decide (parseMethodDescriptor y.desc = some meth.sig)) = true) : (Jvm.Cond.code y bytes mx rt).before a s = true := by
  simp only [Bool.and_eq_true, beq_iff_eq, Bool.not_eq_true', decide_eq_true_eq] at h5
  obtain ⟨⟨⟨⟨⟨g1, g2⟩, g3⟩, g4⟩, g5⟩, g6⟩ := h5
  simp [Cond.before, Cond.holds, Cond.value, h1, h2, h3, h4, g1, g2, g3, g4, g5, g6]
def isCode : Jvm.Cond → Bool
  | .code _ _ _ _ => true
  | _ => false
theorem all_split {L : List Jvm.Cond} {P : Jvm.Cond → Bool} (h1 : L.all (fun c => isCode c || P c) = true) (h2 : ∀ c ∈ L.filter isCode, P c = true) : L.all P = true := by
  refine List.all_eq_true.mpr fun c hc => ?_
  have h := List.all_eq_true.mp h1 c hc
  rcases Bool.eq_false_or_eq_true (isCode c) with hi | hi
  · exact h2 c (List.mem_filter.mpr ⟨hc, hi⟩)
  · simpa [hi] using h
set_option maxRecDepth 65536 in
theorem w_c0 : (Jvm.Cond.code x code maxLocals ret).before args0 about1 = true := code_word (m := ⟨1, 1⟩) (meth := k1m1) (c := k1c1) (by decide +kernel) rfl rfl rfl (by decide +kernel)
set_option maxRecDepth 65536 in
theorem w_c1 : (Jvm.Cond.code ({ cls := "java/util/ArrayList", name := "<init>", desc := "()V" } : Jvm.MethodName) jdk_38_method_2_code (1 : Nat) (Option.none : Option Jvm.ClassFile.FieldType)).before args0 about1 = true := code_word (m := ⟨11, 0⟩) (meth := k11m0) (c := k11c0) (by decide +kernel) rfl rfl rfl (by decide +kernel)
set_option maxRecDepth 65536 in
theorem w_c2 : (Jvm.Cond.code ({ cls := "java/util/AbstractList", name := "<init>", desc := "()V" } : Jvm.MethodName) jdk_39_method_1_code (1 : Nat) (Option.none : Option Jvm.ClassFile.FieldType)).before args0 about1 = true := code_word (m := ⟨7, 0⟩) (meth := k7m0) (c := k7c0) (by decide +kernel) rfl rfl rfl (by decide +kernel)
set_option maxRecDepth 65536 in
theorem w_c3 : (Jvm.Cond.code ({ cls := "java/util/AbstractCollection", name := "<init>", desc := "()V" } : Jvm.MethodName) jdk_22_method_1_code (1 : Nat) (Option.none : Option Jvm.ClassFile.FieldType)).before args0 about1 = true := code_word (m := ⟨4, 0⟩) (meth := k4m0) (c := k4c0) (by decide +kernel) rfl rfl rfl (by decide +kernel)
set_option maxRecDepth 65536 in
theorem w_c4 : (Jvm.Cond.code ({ cls := "java/lang/Object", name := "<init>", desc := "()V" } : Jvm.MethodName) object_method_1_code (1 : Nat) (Option.none : Option Jvm.ClassFile.FieldType)).before args0 about1 = true := code_word (m := ⟨0, 0⟩) (meth := k0m0) (c := k0c0) (by decide +kernel) rfl rfl rfl (by decide +kernel)
set_option maxRecDepth 65536 in
theorem w_c5 : (Jvm.Cond.code ({ cls := "com/example/percurso/percurso/suite/Suite", name := "<init>", desc := "(Ljava/util/List;)V" } : Jvm.MethodName) prog_192_method_1_code (3 : Nat) (Option.none : Option Jvm.ClassFile.FieldType)).before args0 about1 = true := code_word (m := ⟨12, 0⟩) (meth := k12m0) (c := k12c0) (by decide +kernel) rfl rfl rfl (by decide +kernel)
set_option maxRecDepth 65536 in
theorem w_c6 : (Jvm.Cond.code ({ cls := "java/util/ArrayList", name := "size", desc := "()I" } : Jvm.MethodName) jdk_38_method_8_code (1 : Nat) (Option.some Jvm.ClassFile.FieldType.int)).before args0 about1 = true := code_word (m := ⟨11, 3⟩) (meth := k11m3) (c := k11c3) (by decide +kernel) rfl rfl rfl (by decide +kernel)
set_option maxRecDepth 65536 in
theorem w_c7 : (Jvm.Cond.code ({ cls := "com/example/percurso/percurso/suite/Suite", name := "inputCount", desc := "()J" } : Jvm.MethodName) prog_192_method_7_code (7 : Nat) (Option.some Jvm.ClassFile.FieldType.long)).before args0 about1 = true := code_word (m := ⟨12, 1⟩) (meth := k12m1) (c := k12c1) (by decide +kernel) rfl rfl rfl (by decide +kernel)
set_option maxRecDepth 65536 in
theorem w_c8 : (Jvm.Cond.code ({ cls := "java/util/ArrayList", name := "add", desc := "(Ljava/lang/Object;)Z" } : Jvm.MethodName) jdk_38_method_25_code (2 : Nat) (Option.some Jvm.ClassFile.FieldType.boolean)).before args0 about1 = true := code_word (m := ⟨11, 7⟩) (meth := k11m7) (c := k11c7) (by decide +kernel) rfl rfl rfl (by decide +kernel)
set_option maxRecDepth 65536 in
theorem w_c9 : (Jvm.Cond.code ({ cls := "java/util/ArrayList", name := "add", desc := "(Ljava/lang/Object;[Ljava/lang/Object;I)V" } : Jvm.MethodName) jdk_38_method_24_code (4 : Nat) (Option.none : Option Jvm.ClassFile.FieldType)).before args0 about1 = true := code_word (m := ⟨11, 6⟩) (meth := k11m6) (c := k11c6) (by decide +kernel) rfl rfl rfl (by decide +kernel)
set_option maxRecDepth 65536 in
theorem w_c10 : (Jvm.Cond.code ({ cls := "java/util/ArrayList", name := "grow", desc := "()[Ljava/lang/Object;" } : Jvm.MethodName) jdk_38_method_7_code (1 : Nat) (Option.some (Jvm.ClassFile.FieldType.array (Jvm.ClassFile.FieldType.object "java/lang/Object")))).before args0 about1 = true := code_word (m := ⟨11, 2⟩) (meth := k11m2) (c := k11c2) (by decide +kernel) rfl rfl rfl (by decide +kernel)
set_option maxRecDepth 65536 in
theorem w_c11 : (Jvm.Cond.code ({ cls := "java/util/ArrayList", name := "grow", desc := "(I)[Ljava/lang/Object;" } : Jvm.MethodName) jdk_38_method_6_code (4 : Nat) (Option.some (Jvm.ClassFile.FieldType.array (Jvm.ClassFile.FieldType.object "java/lang/Object")))).before args0 about1 = true := code_word (m := ⟨11, 1⟩) (meth := k11m1) (c := k11c1) (by decide +kernel) rfl rfl rfl (by decide +kernel)
set_option maxRecDepth 65536 in
theorem w_c12 : (Jvm.Cond.code ({ cls := "java/lang/Math", name := "max", desc := "(II)I" } : Jvm.MethodName) jdk_29_method_65_code (2 : Nat) (Option.some Jvm.ClassFile.FieldType.int)).before args0 about1 = true := code_word (m := ⟨13, 1⟩) (meth := k13m1) (c := k13c1) (by decide +kernel) rfl rfl rfl (by decide +kernel)
set_option maxRecDepth 65536 in
theorem w_c13 : (Jvm.Cond.code ({ cls := "java/util/ArrayList", name := "get", desc := "(I)Ljava/lang/Object;" } : Jvm.MethodName) jdk_38_method_20_code (2 : Nat) (Option.some (Jvm.ClassFile.FieldType.object "java/lang/Object"))).before args0 about1 = true := code_word (m := ⟨11, 5⟩) (meth := k11m5) (c := k11c5) (by decide +kernel) rfl rfl rfl (by decide +kernel)
set_option maxRecDepth 65536 in
theorem w_c14 : (Jvm.Cond.code ({ cls := "java/util/Objects", name := "checkIndex", desc := "(II)I" } : Jvm.MethodName) jdk_31_method_17_code (2 : Nat) (Option.some Jvm.ClassFile.FieldType.int)).before args0 about1 = true := code_word (m := ⟨14, 1⟩) (meth := k14m1) (c := k14c1) (by decide +kernel) rfl rfl rfl (by decide +kernel)
set_option maxRecDepth 65536 in
theorem w_c15 : (Jvm.Cond.code ({ cls := "jdk/internal/util/Preconditions", name := "checkIndex", desc := "(IILjava/util/function/BiFunction;)I" } : Jvm.MethodName) jdk_41_method_11_code (3 : Nat) (Option.some Jvm.ClassFile.FieldType.int)).before args0 about1 = true := code_word (m := ⟨15, 1⟩) (meth := k15m1) (c := k15c1) (by decide +kernel) rfl rfl rfl (by decide +kernel)
set_option maxRecDepth 65536 in
theorem w_c16 : (Jvm.Cond.code ({ cls := "java/util/ArrayList", name := "elementData", desc := "(I)Ljava/lang/Object;" } : Jvm.MethodName) jdk_38_method_18_code (2 : Nat) (Option.some (Jvm.ClassFile.FieldType.object "java/lang/Object"))).before args0 about1 = true := code_word (m := ⟨11, 4⟩) (meth := k11m4) (c := k11c4) (by decide +kernel) rfl rfl rfl (by decide +kernel)
def codes1 : List Jvm.Cond := [Jvm.Cond.code x code maxLocals ret, Jvm.Cond.code ({ cls := "java/util/ArrayList", name := "<init>", desc := "()V" } : Jvm.MethodName) jdk_38_method_2_code (1 : Nat) (Option.none : Option Jvm.ClassFile.FieldType), Jvm.Cond.code ({ cls := "java/util/AbstractList", name := "<init>", desc := "()V" } : Jvm.MethodName) jdk_39_method_1_code (1 : Nat) (Option.none : Option Jvm.ClassFile.FieldType), Jvm.Cond.code ({ cls := "java/util/AbstractCollection", name := "<init>", desc := "()V" } : Jvm.MethodName) jdk_22_method_1_code (1 : Nat) (Option.none : Option Jvm.ClassFile.FieldType), Jvm.Cond.code ({ cls := "java/lang/Object", name := "<init>", desc := "()V" } : Jvm.MethodName) object_method_1_code (1 : Nat) (Option.none : Option Jvm.ClassFile.FieldType), Jvm.Cond.code ({ cls := "com/example/percurso/percurso/suite/Suite", name := "<init>", desc := "(Ljava/util/List;)V" } : Jvm.MethodName) prog_192_method_1_code (3 : Nat) (Option.none : Option Jvm.ClassFile.FieldType), Jvm.Cond.code ({ cls := "java/util/ArrayList", name := "size", desc := "()I" } : Jvm.MethodName) jdk_38_method_8_code (1 : Nat) (Option.some Jvm.ClassFile.FieldType.int), Jvm.Cond.code ({ cls := "com/example/percurso/percurso/suite/Suite", name := "inputCount", desc := "()J" } : Jvm.MethodName) prog_192_method_7_code (7 : Nat) (Option.some Jvm.ClassFile.FieldType.long), Jvm.Cond.code ({ cls := "java/util/ArrayList", name := "add", desc := "(Ljava/lang/Object;)Z" } : Jvm.MethodName) jdk_38_method_25_code (2 : Nat) (Option.some Jvm.ClassFile.FieldType.boolean), Jvm.Cond.code ({ cls := "java/util/ArrayList", name := "add", desc := "(Ljava/lang/Object;[Ljava/lang/Object;I)V" } : Jvm.MethodName) jdk_38_method_24_code (4 : Nat) (Option.none : Option Jvm.ClassFile.FieldType), Jvm.Cond.code ({ cls := "java/util/ArrayList", name := "grow", desc := "()[Ljava/lang/Object;" } : Jvm.MethodName) jdk_38_method_7_code (1 : Nat) (Option.some (Jvm.ClassFile.FieldType.array (Jvm.ClassFile.FieldType.object "java/lang/Object"))), Jvm.Cond.code ({ cls := "java/util/ArrayList", name := "grow", desc := "(I)[Ljava/lang/Object;" } : Jvm.MethodName) jdk_38_method_6_code (4 : Nat) (Option.some (Jvm.ClassFile.FieldType.array (Jvm.ClassFile.FieldType.object "java/lang/Object"))), Jvm.Cond.code ({ cls := "java/lang/Math", name := "max", desc := "(II)I" } : Jvm.MethodName) jdk_29_method_65_code (2 : Nat) (Option.some Jvm.ClassFile.FieldType.int), Jvm.Cond.code ({ cls := "java/util/ArrayList", name := "get", desc := "(I)Ljava/lang/Object;" } : Jvm.MethodName) jdk_38_method_20_code (2 : Nat) (Option.some (Jvm.ClassFile.FieldType.object "java/lang/Object")), Jvm.Cond.code ({ cls := "java/util/Objects", name := "checkIndex", desc := "(II)I" } : Jvm.MethodName) jdk_31_method_17_code (2 : Nat) (Option.some Jvm.ClassFile.FieldType.int), Jvm.Cond.code ({ cls := "jdk/internal/util/Preconditions", name := "checkIndex", desc := "(IILjava/util/function/BiFunction;)I" } : Jvm.MethodName) jdk_41_method_11_code (3 : Nat) (Option.some Jvm.ClassFile.FieldType.int), Jvm.Cond.code ({ cls := "java/util/ArrayList", name := "elementData", desc := "(I)Ljava/lang/Object;" } : Jvm.MethodName) jdk_38_method_18_code (2 : Nat) (Option.some (Jvm.ClassFile.FieldType.object "java/lang/Object"))]
set_option maxRecDepth 65536 in
theorem codes_eq : words1.filter isCode = codes1 := rfl
theorem w_codes : ∀ c ∈ words1.filter isCode, c.before args0 about1 = true := by
  rw [codes_eq]
  intro c hc
  simp only [codes1, List.mem_cons, List.not_mem_nil, or_false] at hc
  rcases hc with rfl | rfl | rfl | rfl | rfl | rfl | rfl | rfl | rfl | rfl | rfl | rfl | rfl | rfl | rfl | rfl | rfl
  · exact w_c0
  · exact w_c1
  · exact w_c2
  · exact w_c3
  · exact w_c4
  · exact w_c5
  · exact w_c6
  · exact w_c7
  · exact w_c8
  · exact w_c9
  · exact w_c10
  · exact w_c11
  · exact w_c12
  · exact w_c13
  · exact w_c14
  · exact w_c15
  · exact w_c16
set_option maxRecDepth 65536 in
theorem w_t1 : (words1.take 24).all (fun c => isCode c || c.before args0 about1) = true := by decide +kernel
set_option maxRecDepth 65536 in
theorem w_t2 : ((words1.drop 24).take 24).all (fun c => isCode c || c.before args0 about1) = true := by decide +kernel
set_option maxRecDepth 65536 in
theorem w_t3 : (((words1.drop 24).drop 24).take 24).all (fun c => isCode c || c.before args0 about1) = true := by decide +kernel
set_option maxRecDepth 65536 in
theorem w_t4 : ((((words1.drop 24).drop 24).drop 24).take 24).all (fun c => isCode c || c.before args0 about1) = true := by decide +kernel
set_option maxRecDepth 65536 in
theorem w_t5 : ((((words1.drop 24).drop 24).drop 24).drop 24).all (fun c => isCode c || c.before args0 about1) = true := by decide +kernel
theorem w_tables : (allAtoms (Jvm.Cond.code x code maxLocals ret :: tables_1)).before args0 about1 = true := by
  rw [allAtoms_all]
  show words1.all (fun c => c.before args0 about1) = true
  refine all_split ?_ w_codes
  rw [← List.take_append_drop 24 words1, List.all_append, w_t1, ← List.take_append_drop 24 (words1.drop 24), List.all_append, w_t2, ← List.take_append_drop 24 ((words1.drop 24).drop 24), List.all_append, w_t3, ← List.take_append_drop 24 (((words1.drop 24).drop 24).drop 24), List.all_append, w_t4, w_t5]
  rfl
set_option maxRecDepth 65536 in
theorem w_rest : rest_1_c.before args0 about1 = true := by decide +kernel
set_option maxRecDepth 65536 in
theorem w_case : (Jvm.Cond.and given_1 narrow_1).before args0 about1 = true := by decide +kernel
theorem w_applies : (headSpec (Jvm.Cond.code x code maxLocals ret :: tables_1) room_1).applies x e0.platform about1 = true :=
  (Spec.applies_iff w_frames).mpr ⟨w_running, w_runnable, w_alone, w_named, w_hears, w_ripe, w_room, w_tables⟩
theorem atStart : AtStart classFile x code maxLocals ret World_1 tables_1 room_1 Calls_1 rest_1 Pre_1 launch0 p0 e0 about1 theMethod args0 below0 :=
  ⟨lists_1, trivial, launch0.admits_env _ _ _, launch0.least_env, fairChoices_fair.cas, fairChoices_fair.clock, w_frames, w_args, w_heap, w_applies, trivial, w_rest, w_case⟩
end start1
theorem witness_1 : WitnessClaimed_1 := ⟨start1.p0, start1.e0, start1.about1, start1.theMethod, start1.args0, start1.below0, start1.atStart⟩
end Jvm.Pilot.@@N@@
