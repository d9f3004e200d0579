import JvmDerived
import JvmDerived.Pilot.@@N@@Statement
import JvmDerived.Pilot.@@N@@Code
set_option linter.unusedVariables false
set_option linter.unusedSimpArgs false
namespace Jvm.RoadKit
open Sem ClassFile Op Lib Jvm.Stand Jvm.Free Jvm.LawKit
section New
variable {p : Program} {l : Launch} {e : Env} {R : Room} {s : State} {m : MethodId} {args : Array Value} {below : List Frame} {meth : Method} {c : Code} {T : State} {locs : List Loc} {cells slots : Nat}
theorem retI (X : Stand p l e R s m args below meth c T locs cells slots) (hx : p.tables.exec = Jvm.exec) {pc : Nat} {Ls : Array Slot} {z : Int32} {rest : List Value} (hret : meth.sig.returnType = some .int) (hd : decode c.code pc = .ok (.ireturn, 1)) {fs : List Frame}
    (hl : ∀ (f : JFrame) (acts : List Action), f.method = m → f.locked = none → f.entered = [] → (doReturn e (T.setTop f) acts (some (.int z))).1 = T.setFrames fs) : Steps p.tables e below (T.setTop (mkF m pc Ls (.int z :: rest))) (T.setFrames fs) :=
  retOut X hx hret rfl (Or.inl ⟨rfl, Or.inl rfl, _, rfl⟩) hd hl
theorem retJ (X : Stand p l e R s m args below meth c T locs cells slots) (hx : p.tables.exec = Jvm.exec) {pc : Nat} {Ls : Array Slot} {z : Int64} {rest : List Value} (hret : meth.sig.returnType = some .long) (hd : decode c.code pc = .ok (.lreturn, 1)) {fs : List Frame}
    (hl : ∀ (f : JFrame) (acts : List Action), f.method = m → f.locked = none → f.entered = [] → (doReturn e (T.setTop f) acts (some (.long z))).1 = T.setFrames fs) : Steps p.tables e below (T.setTop (mkF m pc Ls (.long z :: rest))) (T.setFrames fs) :=
  retOut X hx hret rfl (Or.inr (Or.inl ⟨rfl, rfl, _, rfl⟩)) hd hl
theorem retR (X : Stand p l e R s m args below meth c T locs cells slots) (hx : p.tables.exec = Jvm.exec) {pc : Nat} {Ls : Array Slot} {w : Value} {t : FieldType} {rest : List Value} (hret : meth.sig.returnType = some t) (ht : t.isReference = true) (hv : w.isRef = true) (hd : decode c.code pc = .ok (.areturn, 1)) {fs : List Frame}
    (hl : ∀ (f : JFrame) (acts : List Action), f.method = m → f.locked = none → f.entered = [] → (doReturn e (T.setTop f) acts (some w)).1 = T.setFrames fs) : Steps p.tables e below (T.setTop (mkF m pc Ls (w :: rest))) (T.setFrames fs) :=
  retOut X hx hret (by cases t <;> simp_all [narrow, FieldType.isReference]) (Or.inr (Or.inr (Or.inr (Or.inr ⟨rfl, ht, hv⟩)))) hd hl
end New
end Jvm.RoadKit
namespace Jvm.Pilot.@@N@@
open Jvm Jvm.ClassFile Sem Op Lib Jvm.Free Jvm.Stand Jvm.LawKit Jvm.RoadKit Bundle Jvm.Pilot.@@N@@.Jvm.D
def Done (p : Program) (e : Env) (below : List Frame) (P : State → Outcome → Prop) (A : State) : Prop := ∃ s₂ o, Steps p.tables e below A s₂ ∧ s₂.status = .running ∧ Ended s₂ below o ∧ P s₂ o
theorem Done.st {p : Program} {e : Env} {below : List Frame} {P : State → Outcome → Prop} {A B : State} (k : ∀ t, Steps p.tables e below B t → Steps p.tables e below A t) (h : Done p e below P B) : Done p e below P A := by
  obtain ⟨s₂, o, h1, h2⟩ := h; exact ⟨s₂, o, k _ h1, h2⟩
theorem Done.fin {p : Program} {e : Env} {below : List Frame} {P : State → Outcome → Prop} {A U : State} {o : Outcome} (k : Steps p.tables e below A U) (h1 : U.status = .running) (h2 : Ended U below o) (h3 : P U o) : Done p e below P A := ⟨U, o, k, h1, h2, h3⟩
theorem d1_0 : decode prog_36_method_25_code 0 = .ok (.lload_n 2, 1) := by decide +kernel
theorem d1_1 : decode prog_36_method_25_code 1 = .ok (.lload 4, 2) := by decide +kernel
theorem d1_3 : decode prog_36_method_25_code 3 = .ok (.lcmp, 1) := by decide +kernel
theorem d1_4 : decode prog_36_method_25_code 4 = .ok (.ifCond .gt 24, 3) := by decide +kernel
theorem d1_7 : decode prog_36_method_25_code 7 = .ok (.lload_n 2, 1) := by decide +kernel
theorem d1_8 : decode prog_36_method_25_code 8 = .ok (.lload_n 0, 1) := by decide +kernel
theorem d1_9 : decode prog_36_method_25_code 9 = .ok (.lcmp, 1) := by decide +kernel
theorem d1_10 : decode prog_36_method_25_code 10 = .ok (.ifCond .ge 14, 3) := by decide +kernel
theorem d1_13 : decode prog_36_method_25_code 13 = .ok (.lload_n 0, 1) := by decide +kernel
theorem d1_14 : decode prog_36_method_25_code 14 = .ok (.lload 4, 2) := by decide +kernel
theorem d1_16 : decode prog_36_method_25_code 16 = .ok (.lcmp, 1) := by decide +kernel
theorem d1_17 : decode prog_36_method_25_code 17 = .ok (.ifCond .gt 7, 3) := by decide +kernel
theorem d1_20 : decode prog_36_method_25_code 20 = .ok (.iconst 1, 1) := by decide +kernel
theorem d1_21 : decode prog_36_method_25_code 21 = .ok (.goto 25, 3) := by decide +kernel
theorem d1_24 : decode prog_36_method_25_code 24 = .ok (.iconst 0, 1) := by decide +kernel
theorem d1_25 : decode prog_36_method_25_code 25 = .ok (.goto 21, 3) := by decide +kernel
theorem d1_28 : decode prog_36_method_25_code 28 = .ok (.lload_n 2, 1) := by decide +kernel
theorem d1_29 : decode prog_36_method_25_code 29 = .ok (.lload_n 0, 1) := by decide +kernel
theorem d1_30 : decode prog_36_method_25_code 30 = .ok (.lcmp, 1) := by decide +kernel
theorem d1_31 : decode prog_36_method_25_code 31 = .ok (.ifCond .lt 10, 3) := by decide +kernel
theorem d1_34 : decode prog_36_method_25_code 34 = .ok (.lload_n 0, 1) := by decide +kernel
theorem d1_35 : decode prog_36_method_25_code 35 = .ok (.lload 4, 2) := by decide +kernel
theorem d1_37 : decode prog_36_method_25_code 37 = .ok (.lcmp, 1) := by decide +kernel
theorem d1_38 : decode prog_36_method_25_code 38 = .ok (.ifCond .gt 7, 3) := by decide +kernel
theorem d1_41 : decode prog_36_method_25_code 41 = .ok (.iconst 1, 1) := by decide +kernel
theorem d1_42 : decode prog_36_method_25_code 42 = .ok (.goto 4, 3) := by decide +kernel
theorem d1_45 : decode prog_36_method_25_code 45 = .ok (.iconst 0, 1) := by decide +kernel
theorem d1_46 : decode prog_36_method_25_code 46 = .ok (.ireturn, 1) := by decide +kernel
theorem d2_0 : decode method_3_code 0 = .ok (.lload_n 0, 1) := by decide +kernel
theorem d2_1 : decode method_3_code 1 = .ok (.ldc2_w 21, 3) := by decide +kernel
theorem d2_4 : decode method_3_code 4 = .ok (.ladd, 1) := by decide +kernel
theorem d2_5 : decode method_3_code 5 = .ok (.lload_n 2, 1) := by decide +kernel
theorem d2_6 : decode method_3_code 6 = .ok (.ldc2_w 21, 3) := by decide +kernel
theorem d2_9 : decode method_3_code 9 = .ok (.ladd, 1) := by decide +kernel
theorem d2_10 : decode method_3_code 10 = .ok (.lcmp, 1) := by decide +kernel
theorem d2_11 : decode method_3_code 11 = .ok (.ifCond .gt 7, 3) := by decide +kernel
theorem d2_14 : decode method_3_code 14 = .ok (.iconst 1, 1) := by decide +kernel
theorem d2_15 : decode method_3_code 15 = .ok (.goto 4, 3) := by decide +kernel
theorem d2_18 : decode method_3_code 18 = .ok (.iconst 0, 1) := by decide +kernel
theorem d2_19 : decode method_3_code 19 = .ok (.ireturn, 1) := by decide +kernel
theorem pn_0 : plainName "hasp/cli/ProcessTree" = true := by first | (simp [plainName, overriddenIn]; done) | decide +kernel
theorem pn_1 : plainName "hasp/cli/ProcessTreeHandedOutAfterPinLaw" = true := by first | (simp [plainName, overriddenIn]; done) | decide +kernel
theorem pd_0 : parseMethodDescriptor "(JJJ)Z" = some ⟨[.long, .long, .long], some .boolean⟩ := by decide +kernel
theorem pd_1 : parseMethodDescriptor "(JJ)Z" = some ⟨[.long, .long], some .boolean⟩ := by decide +kernel
def own_ho (a m b : Int64) : Int32 := if b < m then (if m < a then 1 else if b < a then 0 else 1) else (if m < a then (if b < a then 0 else 1) else 0)
def own_ua (x y : Int64) : Int32 := if (y + (-9223372036854775808 : Int64)) < (x + (-9223372036854775808 : Int64)) then 0 else 1
theorem own_law (a m b : Int64) : own_ho a m b = if a - m = 0 then 0 else own_ua (a - m) (b - m) := by
  have e1 := c_lsub a m
  have e2 := c_lsub b m
  have e3 := c_ladd (a - m) (-9223372036854775808 : Int64)
  have e4 := c_ladd (b - m) (-9223372036854775808 : Int64)
  have r1 := rng64 a
  have r2 := rng64 b
  have r3 := rng64 m
  have r4 := rng64 (a - m)
  have r5 := rng64 (b - m)
  have r6 := rng64 (a - m + (-9223372036854775808 : Int64))
  have r7 := rng64 (b - m + (-9223372036854775808 : Int64))
  have kM : (-9223372036854775808 : Int64).toInt = -9223372036854775808 := by decide
  have z : (a - m = 0) ↔ (a - m).toInt = 0 := ⟨fun h => by rw [h]; rfl, fun h => Int64.toInt_inj.mp (by rw [h]; rfl)⟩
  simp only [own_ho, own_ua, Int64.lt_iff_toInt_lt, z]
  rw [kM] at e3 e4
  generalize (a - m + (-9223372036854775808 : Int64)).toInt = P at *
  generalize (b - m + (-9223372036854775808 : Int64)).toInt = Q at *
  generalize (a - m).toInt = U at *
  generalize (b - m).toInt = V at *
  generalize a.toInt = A at *
  generalize b.toInt = B at *
  generalize m.toInt = C at *
  clear z
  repeat' split
  all_goals first | rfl | (exfalso; omega)
theorem own_ua01 (x y : Int64) : own_ua x y = 0 ∨ own_ua x y = 1 := by unfold own_ua; split <;> simp
theorem own_no1 {a m b : Int64} (h : a - m = 0) (k : ¬ own_ho a m b = 0) : False := k (by rw [own_law, if_pos h])
theorem own_no2 {a m b : Int64} (h : ¬ a - m = 0) (q : own_ua (a - m) (b - m) = 0) (k : ¬ own_ho a m b = 0) : False := k (by rw [own_law, if_neg h, q])
theorem own_no3 {a m b : Int64} (h : ¬ a - m = 0) (q : ¬ own_ua (a - m) (b - m) = 0) (k : ¬ own_ho a m b = 1) : False := k (by rw [own_law, if_neg h]; exact (own_ua01 _ _).resolve_left q)

theorem ef_rm1 (m : MethodId) (a : Int64) (mk : Int64) (b : Int64) : entryFrame m #[(.long a), (.long mk), (.long b)] 6 = mkF m 0 #[.val (.long a), .second, .val (.long mk), .second, .val (.long b), .second] [] := by first | (simp [entryFrame, mkF, argsToLocals, Value.category]; done) | rfl
def Qrm1 (Z : State) (a : Int64) (mk : Int64) (b : Int64) (h0 : Heap) (n0 : Nat) (v : Option Value) (h : Heap) (L : List Loc) : Prop := v = some (.int (own_ho a mk b)) ∧ Fr n0 L ∧ h = h0
def Prm1 (s : State) (Z : State) (a : Int64) (mk : Int64) (b : Int64) (h0 : Heap) (n0 : Nat) : State → Outcome → Prop := fun U' o => ∃ v L, o = .returned v ∧ Qrm1 Z a mk b h0 n0 v U'.heap L ∧ FrameEnd s o U' L ({ frames := 0, cells := 0, slots := 0, locals := 0 } : Room).cells ({ frames := 0, cells := 0, slots := 0, locals := 0 } : Room).slots
set_option maxRecDepth 65536 in
set_option maxHeartbeats 40000000 in
theorem rm1 (l : Launch) (Z : State) (a0 : Array Value) (hw : ∀ d ∈ tables_1, d.before a0 Z = true) (ws : List Jvm.Cond) (a : Int64) (mk : Int64) (b : Int64) (h0 : Heap) (n0 : Nat) (Z0 : n0 ≤ h0.size) :
    MetFree l (⟨"hasp/cli/ProcessTree", "handedOutAfter", "(JJJ)Z"⟩ : MethodName) (head1 (Jvm.Cond.code (⟨"hasp/cli/ProcessTree", "handedOutAfter", "(JJJ)Z"⟩ : MethodName) prog_36_method_25_code 6 (some .boolean) :: ws) ({ frames := 0, cells := 0, slots := 0, locals := 0 } : Room)) (fun aa U => aa = #[(.long a), (.long mk), (.long b)] ∧ Z.Warmed39 U.vm ∧ U.heap = h0) (fun _ _ _ _ _ => True) (fun _ U o U' => ∃ v L, o = .returned v ∧ Qrm1 Z a mk b h0 n0 v U'.heap L ∧ FrameEnd U o U' L ({ frames := 0, cells := 0, slots := 0, locals := 0 } : Room).cells ({ frames := 0, cells := 0, slots := 0, locals := 0 } : Room).slots) := by
  refine MetFree.of_bodySF (plainFor_of_name pn_0) hisR ?_
  intro p e s m args below meth c s₁ Bd hml0 hP hK
  obtain ⟨rfl, hZ, hh⟩ := hP
  have hx := Bd.exec
  have hlk : meth.locks = false := by first | exact BodyLoose.notSynchronized Bd | exact Body.notSynchronized Bd
  have hby := Bd.bytes
  have hml : c.maxLocals = 6 := hml0
  have hown : s.vm.findClass "hasp/cli/ProcessTree" = some m.cls := findClass_of_methodNamed Bd.named
  have hnm := (name_of_methodNamed Bd.named Bd.method).1
  have X0 : Stand p l e ({ frames := 0, cells := 0, slots := 0, locals := 0 } : Room) s m #[(.long a), (.long mk), (.long b)] below meth c s₁ [] 0 0 := Stand.of_body Bd
  have e0 : s₁.heap = h0 := by rw [← hh, Bd.state]; rfl
  have N0 := Fr.nil n0
  show Done p e below (Prm1 s Z a mk b h0 n0) (s₁.setTop (entryFrame m #[(.long a), (.long mk), (.long b)] 6))
  refine Done.st (B := s₁.setTop (mkF m 0 #[.val (.long a), .second, .val (.long mk), .second, .val (.long b), .second] [])) (fun _ k => castTop (ef_rm1 m a mk b) k) ?_
  refine Done.st (B := s₁.setTop (mkF m 1 #[.val (.long a), .second, .val (.long mk), .second, .val (.long b), .second] [(.long mk)])) (fun _ k => XS.lloadN X0.here hx rfl (hb hby d1_0) rfl k) ?_
  refine Done.st (B := s₁.setTop (mkF m 3 #[.val (.long a), .second, .val (.long mk), .second, .val (.long b), .second] [(.long b), (.long mk)])) (fun _ k => XS.lload X0.here hx rfl (hb hby d1_1) rfl k) ?_
  refine Done.st (B := s₁.setTop (mkF m 4 #[.val (.long a), .second, .val (.long mk), .second, .val (.long b), .second] [(.int (lcmpW mk b))])) (fun _ k => XS.lcmp X0.here hx rfl (hb hby d1_3) rfl k) ?_
  by_cases hc4 : b < mk
  · refine Done.st (B := s₁.setTop (mkF m 28 #[.val (.long a), .second, .val (.long mk), .second, .val (.long b), .second] [])) (fun _ k => XS.ifYes X0.here hx rfl (pc0 := 4) (pc' := 28) rfl (hb hby d1_4) rfl ((if0 _ _).trans (tlt ((lw_gt _ _).mpr hc4)).2.2.1) (by decide) (by decide) k) ?_
    refine Done.st (B := s₁.setTop (mkF m 29 #[.val (.long a), .second, .val (.long mk), .second, .val (.long b), .second] [(.long mk)])) (fun _ k => XS.lloadN X0.here hx rfl (hb hby d1_28) rfl k) ?_
    refine Done.st (B := s₁.setTop (mkF m 30 #[.val (.long a), .second, .val (.long mk), .second, .val (.long b), .second] [(.long a), (.long mk)])) (fun _ k => XS.lloadN X0.here hx rfl (hb hby d1_29) rfl k) ?_
    refine Done.st (B := s₁.setTop (mkF m 31 #[.val (.long a), .second, .val (.long mk), .second, .val (.long b), .second] [(.int (lcmpW mk a))])) (fun _ k => XS.lcmp X0.here hx rfl (hb hby d1_30) rfl k) ?_
    by_cases hc31 : mk < a
    · refine Done.st (B := s₁.setTop (mkF m 41 #[.val (.long a), .second, .val (.long mk), .second, .val (.long b), .second] [])) (fun _ k => XS.ifYes X0.here hx rfl (pc0 := 31) (pc' := 41) rfl (hb hby d1_31) rfl ((if0 _ _).trans (tlt ((lw_lt _ _).mpr hc31)).1) (by decide) (by decide) k) ?_
      refine Done.st (B := s₁.setTop (mkF m 42 #[.val (.long a), .second, .val (.long mk), .second, .val (.long b), .second] [(.int (1 : Int32))])) (fun _ k => XS.iconst X0.here hx rfl (hb hby d1_41) k) ?_
      refine Done.st (B := s₁.setTop (mkF m 46 #[.val (.long a), .second, .val (.long mk), .second, .val (.long b), .second] [(.int (1 : Int32))])) (fun _ k => XS.goto X0.here hx rfl (pc0 := 42) (pc' := 46) rfl (hb hby d1_42) (by decide) (by decide) k) ?_
      obtain ⟨fs, hr, hrun, hended, hW, hsame⟩ := X0.leave (v := some (.int (1 : Int32))) (hlocks := hlk) (fun h => by rw [Bd.returns] at h; cases h)
      refine Done.fin (retN X0 hx (t := .boolean) Bd.returns (by simp) (hb hby d1_46) hr) hrun hended ⟨_, _, rfl, ?_, ⟨_, rfl⟩, hW, hsame.mono (by decide) (by decide)⟩
      show Qrm1 Z a mk b h0 n0 _ s₁.heap _
      rw [e0]
      exact ⟨by simp [own_ho, hc4, hc31], N0, rfl⟩
    · refine Done.st (B := s₁.setTop (mkF m 34 #[.val (.long a), .second, .val (.long mk), .second, .val (.long b), .second] [])) (fun _ k => XS.ifNo X0.here hx rfl (hb hby d1_31) rfl ((if0 _ _).trans (flt (fun z => hc31 ((lw_lt _ _).mp z))).1) k) ?_
      refine Done.st (B := s₁.setTop (mkF m 35 #[.val (.long a), .second, .val (.long mk), .second, .val (.long b), .second] [(.long a)])) (fun _ k => XS.lloadN X0.here hx rfl (hb hby d1_34) rfl k) ?_
      refine Done.st (B := s₁.setTop (mkF m 37 #[.val (.long a), .second, .val (.long mk), .second, .val (.long b), .second] [(.long b), (.long a)])) (fun _ k => XS.lload X0.here hx rfl (hb hby d1_35) rfl k) ?_
      refine Done.st (B := s₁.setTop (mkF m 38 #[.val (.long a), .second, .val (.long mk), .second, .val (.long b), .second] [(.int (lcmpW a b))])) (fun _ k => XS.lcmp X0.here hx rfl (hb hby d1_37) rfl k) ?_
      by_cases hc38 : b < a
      · refine Done.st (B := s₁.setTop (mkF m 45 #[.val (.long a), .second, .val (.long mk), .second, .val (.long b), .second] [])) (fun _ k => XS.ifYes X0.here hx rfl (pc0 := 38) (pc' := 45) rfl (hb hby d1_38) rfl ((if0 _ _).trans (tlt ((lw_gt _ _).mpr hc38)).2.2.1) (by decide) (by decide) k) ?_
        refine Done.st (B := s₁.setTop (mkF m 46 #[.val (.long a), .second, .val (.long mk), .second, .val (.long b), .second] [(.int (0 : Int32))])) (fun _ k => XS.iconst X0.here hx rfl (hb hby d1_45) k) ?_
        obtain ⟨fs, hr, hrun, hended, hW, hsame⟩ := X0.leave (v := some (.int (0 : Int32))) (hlocks := hlk) (fun h => by rw [Bd.returns] at h; cases h)
        refine Done.fin (retN X0 hx (t := .boolean) Bd.returns (by simp) (hb hby d1_46) hr) hrun hended ⟨_, _, rfl, ?_, ⟨_, rfl⟩, hW, hsame.mono (by decide) (by decide)⟩
        show Qrm1 Z a mk b h0 n0 _ s₁.heap _
        rw [e0]
        exact ⟨by simp [own_ho, hc4, hc31, hc38], N0, rfl⟩
      · refine Done.st (B := s₁.setTop (mkF m 41 #[.val (.long a), .second, .val (.long mk), .second, .val (.long b), .second] [])) (fun _ k => XS.ifNo X0.here hx rfl (hb hby d1_38) rfl ((if0 _ _).trans (flt (fun z => hc38 ((lw_gt _ _).mp z))).2.2.1) k) ?_
        refine Done.st (B := s₁.setTop (mkF m 42 #[.val (.long a), .second, .val (.long mk), .second, .val (.long b), .second] [(.int (1 : Int32))])) (fun _ k => XS.iconst X0.here hx rfl (hb hby d1_41) k) ?_
        refine Done.st (B := s₁.setTop (mkF m 46 #[.val (.long a), .second, .val (.long mk), .second, .val (.long b), .second] [(.int (1 : Int32))])) (fun _ k => XS.goto X0.here hx rfl (pc0 := 42) (pc' := 46) rfl (hb hby d1_42) (by decide) (by decide) k) ?_
        obtain ⟨fs, hr, hrun, hended, hW, hsame⟩ := X0.leave (v := some (.int (1 : Int32))) (hlocks := hlk) (fun h => by rw [Bd.returns] at h; cases h)
        refine Done.fin (retN X0 hx (t := .boolean) Bd.returns (by simp) (hb hby d1_46) hr) hrun hended ⟨_, _, rfl, ?_, ⟨_, rfl⟩, hW, hsame.mono (by decide) (by decide)⟩
        show Qrm1 Z a mk b h0 n0 _ s₁.heap _
        rw [e0]
        exact ⟨by simp [own_ho, hc4, hc31, hc38], N0, rfl⟩
  · refine Done.st (B := s₁.setTop (mkF m 7 #[.val (.long a), .second, .val (.long mk), .second, .val (.long b), .second] [])) (fun _ k => XS.ifNo X0.here hx rfl (hb hby d1_4) rfl ((if0 _ _).trans (flt (fun z => hc4 ((lw_gt _ _).mp z))).2.2.1) k) ?_
    refine Done.st (B := s₁.setTop (mkF m 8 #[.val (.long a), .second, .val (.long mk), .second, .val (.long b), .second] [(.long mk)])) (fun _ k => XS.lloadN X0.here hx rfl (hb hby d1_7) rfl k) ?_
    refine Done.st (B := s₁.setTop (mkF m 9 #[.val (.long a), .second, .val (.long mk), .second, .val (.long b), .second] [(.long a), (.long mk)])) (fun _ k => XS.lloadN X0.here hx rfl (hb hby d1_8) rfl k) ?_
    refine Done.st (B := s₁.setTop (mkF m 10 #[.val (.long a), .second, .val (.long mk), .second, .val (.long b), .second] [(.int (lcmpW mk a))])) (fun _ k => XS.lcmp X0.here hx rfl (hb hby d1_9) rfl k) ?_
    by_cases hc10 : mk < a
    · refine Done.st (B := s₁.setTop (mkF m 13 #[.val (.long a), .second, .val (.long mk), .second, .val (.long b), .second] [])) (fun _ k => XS.ifNo X0.here hx rfl (hb hby d1_10) rfl ((if0 _ _).trans (tlt ((lw_lt _ _).mpr hc10)).2.1) k) ?_
      refine Done.st (B := s₁.setTop (mkF m 14 #[.val (.long a), .second, .val (.long mk), .second, .val (.long b), .second] [(.long a)])) (fun _ k => XS.lloadN X0.here hx rfl (hb hby d1_13) rfl k) ?_
      refine Done.st (B := s₁.setTop (mkF m 16 #[.val (.long a), .second, .val (.long mk), .second, .val (.long b), .second] [(.long b), (.long a)])) (fun _ k => XS.lload X0.here hx rfl (hb hby d1_14) rfl k) ?_
      refine Done.st (B := s₁.setTop (mkF m 17 #[.val (.long a), .second, .val (.long mk), .second, .val (.long b), .second] [(.int (lcmpW a b))])) (fun _ k => XS.lcmp X0.here hx rfl (hb hby d1_16) rfl k) ?_
      by_cases hc17 : b < a
      · refine Done.st (B := s₁.setTop (mkF m 24 #[.val (.long a), .second, .val (.long mk), .second, .val (.long b), .second] [])) (fun _ k => XS.ifYes X0.here hx rfl (pc0 := 17) (pc' := 24) rfl (hb hby d1_17) rfl ((if0 _ _).trans (tlt ((lw_gt _ _).mpr hc17)).2.2.1) (by decide) (by decide) k) ?_
        refine Done.st (B := s₁.setTop (mkF m 25 #[.val (.long a), .second, .val (.long mk), .second, .val (.long b), .second] [(.int (0 : Int32))])) (fun _ k => XS.iconst X0.here hx rfl (hb hby d1_24) k) ?_
        refine Done.st (B := s₁.setTop (mkF m 46 #[.val (.long a), .second, .val (.long mk), .second, .val (.long b), .second] [(.int (0 : Int32))])) (fun _ k => XS.goto X0.here hx rfl (pc0 := 25) (pc' := 46) rfl (hb hby d1_25) (by decide) (by decide) k) ?_
        obtain ⟨fs, hr, hrun, hended, hW, hsame⟩ := X0.leave (v := some (.int (0 : Int32))) (hlocks := hlk) (fun h => by rw [Bd.returns] at h; cases h)
        refine Done.fin (retN X0 hx (t := .boolean) Bd.returns (by simp) (hb hby d1_46) hr) hrun hended ⟨_, _, rfl, ?_, ⟨_, rfl⟩, hW, hsame.mono (by decide) (by decide)⟩
        show Qrm1 Z a mk b h0 n0 _ s₁.heap _
        rw [e0]
        exact ⟨by simp [own_ho, hc4, hc10, hc17], N0, rfl⟩
      · refine Done.st (B := s₁.setTop (mkF m 20 #[.val (.long a), .second, .val (.long mk), .second, .val (.long b), .second] [])) (fun _ k => XS.ifNo X0.here hx rfl (hb hby d1_17) rfl ((if0 _ _).trans (flt (fun z => hc17 ((lw_gt _ _).mp z))).2.2.1) k) ?_
        refine Done.st (B := s₁.setTop (mkF m 21 #[.val (.long a), .second, .val (.long mk), .second, .val (.long b), .second] [(.int (1 : Int32))])) (fun _ k => XS.iconst X0.here hx rfl (hb hby d1_20) k) ?_
        refine Done.st (B := s₁.setTop (mkF m 46 #[.val (.long a), .second, .val (.long mk), .second, .val (.long b), .second] [(.int (1 : Int32))])) (fun _ k => XS.goto X0.here hx rfl (pc0 := 21) (pc' := 46) rfl (hb hby d1_21) (by decide) (by decide) k) ?_
        obtain ⟨fs, hr, hrun, hended, hW, hsame⟩ := X0.leave (v := some (.int (1 : Int32))) (hlocks := hlk) (fun h => by rw [Bd.returns] at h; cases h)
        refine Done.fin (retN X0 hx (t := .boolean) Bd.returns (by simp) (hb hby d1_46) hr) hrun hended ⟨_, _, rfl, ?_, ⟨_, rfl⟩, hW, hsame.mono (by decide) (by decide)⟩
        show Qrm1 Z a mk b h0 n0 _ s₁.heap _
        rw [e0]
        exact ⟨by simp [own_ho, hc4, hc10, hc17], N0, rfl⟩
    · refine Done.st (B := s₁.setTop (mkF m 24 #[.val (.long a), .second, .val (.long mk), .second, .val (.long b), .second] [])) (fun _ k => XS.ifYes X0.here hx rfl (pc0 := 10) (pc' := 24) rfl (hb hby d1_10) rfl ((if0 _ _).trans (flt (fun z => hc10 ((lw_lt _ _).mp z))).2.1) (by decide) (by decide) k) ?_
      refine Done.st (B := s₁.setTop (mkF m 25 #[.val (.long a), .second, .val (.long mk), .second, .val (.long b), .second] [(.int (0 : Int32))])) (fun _ k => XS.iconst X0.here hx rfl (hb hby d1_24) k) ?_
      refine Done.st (B := s₁.setTop (mkF m 46 #[.val (.long a), .second, .val (.long mk), .second, .val (.long b), .second] [(.int (0 : Int32))])) (fun _ k => XS.goto X0.here hx rfl (pc0 := 25) (pc' := 46) rfl (hb hby d1_25) (by decide) (by decide) k) ?_
      obtain ⟨fs, hr, hrun, hended, hW, hsame⟩ := X0.leave (v := some (.int (0 : Int32))) (hlocks := hlk) (fun h => by rw [Bd.returns] at h; cases h)
      refine Done.fin (retN X0 hx (t := .boolean) Bd.returns (by simp) (hb hby d1_46) hr) hrun hended ⟨_, _, rfl, ?_, ⟨_, rfl⟩, hW, hsame.mono (by decide) (by decide)⟩
      show Qrm1 Z a mk b h0 n0 _ s₁.heap _
      rw [e0]
      exact ⟨by simp [own_ho, hc4, hc10], N0, rfl⟩
theorem ef_rm2 (m : MethodId) (u : Int64) (w : Int64) : entryFrame m #[(.long u), (.long w)] 4 = mkF m 0 #[.val (.long u), .second, .val (.long w), .second] [] := by first | (simp [entryFrame, mkF, argsToLocals, Value.category]; done) | rfl
def Qrm2 (Z : State) (u : Int64) (w : Int64) (h0 : Heap) (n0 : Nat) (v : Option Value) (h : Heap) (L : List Loc) : Prop := v = some (.int (own_ua u w)) ∧ Fr n0 L ∧ h = h0
def Prm2 (s : State) (Z : State) (u : Int64) (w : Int64) (h0 : Heap) (n0 : Nat) : State → Outcome → Prop := fun U' o => ∃ v L, o = .returned v ∧ Qrm2 Z u w h0 n0 v U'.heap L ∧ FrameEnd s o U' L ({ frames := 0, cells := 0, slots := 0, locals := 0 } : Room).cells ({ frames := 0, cells := 0, slots := 0, locals := 0 } : Room).slots
set_option maxRecDepth 65536 in
set_option maxHeartbeats 40000000 in
theorem rm2 (l : Launch) (Z : State) (a0 : Array Value) (hw : ∀ d ∈ tables_1, d.before a0 Z = true) (ws : List Jvm.Cond) (u : Int64) (w : Int64) (h0 : Heap) (n0 : Nat) (Z0 : n0 ≤ h0.size) :
    MetFree l (⟨"hasp/cli/ProcessTreeHandedOutAfterPinLaw", "unsignedAtMost", "(JJ)Z"⟩ : MethodName) (head1 (Jvm.Cond.code (⟨"hasp/cli/ProcessTreeHandedOutAfterPinLaw", "unsignedAtMost", "(JJ)Z"⟩ : MethodName) method_3_code 4 (some .boolean) :: ws) ({ frames := 0, cells := 0, slots := 0, locals := 0 } : Room)) (fun aa U => aa = #[(.long u), (.long w)] ∧ Z.Warmed39 U.vm ∧ U.heap = h0) (fun _ _ _ _ _ => True) (fun _ U o U' => ∃ v L, o = .returned v ∧ Qrm2 Z u w h0 n0 v U'.heap L ∧ FrameEnd U o U' L ({ frames := 0, cells := 0, slots := 0, locals := 0 } : Room).cells ({ frames := 0, cells := 0, slots := 0, locals := 0 } : Room).slots) := by
  refine MetFree.of_bodySF (plainFor_of_name pn_1) hisR ?_
  intro p e s m args below meth c s₁ Bd hml0 hP hK
  obtain ⟨rfl, hZ, hh⟩ := hP
  have hx := Bd.exec
  have hlk : meth.locks = false := by first | exact BodyLoose.notSynchronized Bd | exact Body.notSynchronized Bd
  have hby := Bd.bytes
  have hml : c.maxLocals = 4 := hml0
  have hown : s.vm.findClass "hasp/cli/ProcessTreeHandedOutAfterPinLaw" = some m.cls := findClass_of_methodNamed Bd.named
  have hnm := (name_of_methodNamed Bd.named Bd.method).1
  have X0 : Stand p l e ({ frames := 0, cells := 0, slots := 0, locals := 0 } : Room) s m #[(.long u), (.long w)] below meth c s₁ [] 0 0 := Stand.of_body Bd
  have e0 : s₁.heap = h0 := by rw [← hh, Bd.state]; rfl
  have N0 := Fr.nil n0
  show Done p e below (Prm2 s Z u w h0 n0) (s₁.setTop (entryFrame m #[(.long u), (.long w)] 4))
  refine Done.st (B := s₁.setTop (mkF m 0 #[.val (.long u), .second, .val (.long w), .second] [])) (fun _ k => castTop (ef_rm2 m u w) k) ?_
  refine Done.st (B := s₁.setTop (mkF m 1 #[.val (.long u), .second, .val (.long w), .second] [(.long u)])) (fun _ k => XS.lloadN X0.here hx rfl (hb hby d2_0) rfl k) ?_
  refine Done.st (B := s₁.setTop (mkF m 4 #[.val (.long u), .second, .val (.long w), .second] [(.long (-9223372036854775808 : Int64)), (.long u)])) (fun _ k => X0.ldc2Long hx hown (mvT hZ (hw _ (List.mem_of_getElem? (i := 8) rfl))) (g := (mkF m 1 #[.val (.long u), .second, .val (.long w), .second] [(.long u)])) rfl (hb hby d2_1) _ k) ?_
  refine Done.st (B := s₁.setTop (mkF m 5 #[.val (.long u), .second, .val (.long w), .second] [(.long (u + (-9223372036854775808 : Int64)))])) (fun _ k => XS.ladd X0.here hx rfl (hb hby d2_4) rfl k) ?_
  refine Done.st (B := s₁.setTop (mkF m 6 #[.val (.long u), .second, .val (.long w), .second] [(.long w), (.long (u + (-9223372036854775808 : Int64)))])) (fun _ k => XS.lloadN X0.here hx rfl (hb hby d2_5) rfl k) ?_
  refine Done.st (B := s₁.setTop (mkF m 9 #[.val (.long u), .second, .val (.long w), .second] [(.long (-9223372036854775808 : Int64)), (.long w), (.long (u + (-9223372036854775808 : Int64)))])) (fun _ k => X0.ldc2Long hx hown (mvT hZ (hw _ (List.mem_of_getElem? (i := 8) rfl))) (g := (mkF m 6 #[.val (.long u), .second, .val (.long w), .second] [(.long w), (.long (u + (-9223372036854775808 : Int64)))])) rfl (hb hby d2_6) _ k) ?_
  refine Done.st (B := s₁.setTop (mkF m 10 #[.val (.long u), .second, .val (.long w), .second] [(.long (w + (-9223372036854775808 : Int64))), (.long (u + (-9223372036854775808 : Int64)))])) (fun _ k => XS.ladd X0.here hx rfl (hb hby d2_9) rfl k) ?_
  refine Done.st (B := s₁.setTop (mkF m 11 #[.val (.long u), .second, .val (.long w), .second] [(.int (lcmpW (u + (-9223372036854775808 : Int64)) (w + (-9223372036854775808 : Int64))))])) (fun _ k => XS.lcmp X0.here hx rfl (hb hby d2_10) rfl k) ?_
  by_cases hc11 : (w + (-9223372036854775808 : Int64)) < (u + (-9223372036854775808 : Int64))
  · refine Done.st (B := s₁.setTop (mkF m 18 #[.val (.long u), .second, .val (.long w), .second] [])) (fun _ k => XS.ifYes X0.here hx rfl (pc0 := 11) (pc' := 18) rfl (hb hby d2_11) rfl ((if0 _ _).trans (tlt ((lw_gt _ _).mpr hc11)).2.2.1) (by decide) (by decide) k) ?_
    refine Done.st (B := s₁.setTop (mkF m 19 #[.val (.long u), .second, .val (.long w), .second] [(.int (0 : Int32))])) (fun _ k => XS.iconst X0.here hx rfl (hb hby d2_18) k) ?_
    obtain ⟨fs, hr, hrun, hended, hW, hsame⟩ := X0.leave (v := some (.int (0 : Int32))) (hlocks := hlk) (fun h => by rw [Bd.returns] at h; cases h)
    refine Done.fin (retN X0 hx (t := .boolean) Bd.returns (by simp) (hb hby d2_19) hr) hrun hended ⟨_, _, rfl, ?_, ⟨_, rfl⟩, hW, hsame.mono (by decide) (by decide)⟩
    show Qrm2 Z u w h0 n0 _ s₁.heap _
    rw [e0]
    exact ⟨by simp [own_ua, hc11], N0, rfl⟩
  · refine Done.st (B := s₁.setTop (mkF m 14 #[.val (.long u), .second, .val (.long w), .second] [])) (fun _ k => XS.ifNo X0.here hx rfl (hb hby d2_11) rfl ((if0 _ _).trans (flt (fun z => hc11 ((lw_gt _ _).mp z))).2.2.1) k) ?_
    refine Done.st (B := s₁.setTop (mkF m 15 #[.val (.long u), .second, .val (.long w), .second] [(.int (1 : Int32))])) (fun _ k => XS.iconst X0.here hx rfl (hb hby d2_14) k) ?_
    refine Done.st (B := s₁.setTop (mkF m 19 #[.val (.long u), .second, .val (.long w), .second] [(.int (1 : Int32))])) (fun _ k => XS.goto X0.here hx rfl (pc0 := 15) (pc' := 19) rfl (hb hby d2_15) (by decide) (by decide) k) ?_
    obtain ⟨fs, hr, hrun, hended, hW, hsame⟩ := X0.leave (v := some (.int (1 : Int32))) (hlocks := hlk) (fun h => by rw [Bd.returns] at h; cases h)
    refine Done.fin (retN X0 hx (t := .boolean) Bd.returns (by simp) (hb hby d2_19) hr) hrun hended ⟨_, _, rfl, ?_, ⟨_, rfl⟩, hW, hsame.mono (by decide) (by decide)⟩
    show Qrm2 Z u w h0 n0 _ s₁.heap _
    rw [e0]
    exact ⟨by simp [own_ua, hc11], N0, rfl⟩
theorem ef_rm0 (m : MethodId) (a : Int64) (mk : Int64) (b : Int64) (kk : Int32) : entryFrame m #[(.long a), (.long mk), (.long b), (.int kk)] maxLocals = mkF m 0 #[.val (.long a), .second, .val (.long mk), .second, .val (.long b), .second, .val (.int kk), .unset, .unset, .unset, .unset, .unset, .unset, .unset, .unset, .unset, .unset, .unset, .unset, .unset] [] := by first | (simp [entryFrame, mkF, argsToLocals, Value.category, maxLocals]; done) | rfl
def Qrm0 (Z : State) (a : Int64) (mk : Int64) (b : Int64) (kk : Int32) (h0 : Heap) (n0 : Nat) (v : Option Value) (h : Heap) (L : List Loc) : Prop := v = some (.int 1) ∧ Fr n0 L
def Prm0 (s : State) (Z : State) (a : Int64) (mk : Int64) (b : Int64) (kk : Int32) (h0 : Heap) (n0 : Nat) : State → Outcome → Prop := fun U' o => ∃ v L, o = .returned v ∧ Qrm0 Z a mk b kk h0 n0 v U'.heap L ∧ FrameEnd s o U' L room_1.cells room_1.slots
set_option maxRecDepth 65536 in
set_option maxHeartbeats 40000000 in
theorem rm0 (l : Launch) (Z : State) (a0 : Array Value) (hw : ∀ d ∈ tables_1, d.before a0 Z = true) (ws : List Jvm.Cond) (a : Int64) (mk : Int64) (b : Int64) (kk : Int32) (h0 : Heap) (n0 : Nat) (Z0 : n0 ≤ h0.size) :
    MetFree l x (head1 (Jvm.Cond.code x code maxLocals ret :: ws) room_1) (fun aa U => aa = #[(.long a), (.long mk), (.long b), (.int kk)] ∧ Z.Warmed39 U.vm ∧ U.heap = h0) (fun _ _ _ _ _ => True) (fun _ U o U' => ∃ v L, o = .returned v ∧ Qrm0 Z a mk b kk h0 n0 v U'.heap L ∧ FrameEnd U o U' L room_1.cells room_1.slots) := by
  refine MetFree.of_bodySF (plainFor_of_name pn_1) hisR ?_
  intro p e s m args below meth c s₁ Bd hml0 hP hK
  obtain ⟨rfl, hZ, hh⟩ := hP
  have hx := Bd.exec
  have hlk : meth.locks = false := by first | exact BodyLoose.notSynchronized Bd | exact Body.notSynchronized Bd
  have hby := Bd.bytes
  have hml : c.maxLocals = 20 := hml0
  have hown : s.vm.findClass "hasp/cli/ProcessTreeHandedOutAfterPinLaw" = some m.cls := findClass_of_methodNamed Bd.named
  have hnm := (name_of_methodNamed Bd.named Bd.method).1
  have X0 : Stand p l e room_1 s m #[(.long a), (.long mk), (.long b), (.int kk)] below meth c s₁ [] 0 0 := Stand.of_body Bd
  have e0 : s₁.heap = h0 := by rw [← hh, Bd.state]; rfl
  have N0 := Fr.nil n0
  show Done p e below (Prm0 s Z a mk b kk h0 n0) (s₁.setTop (entryFrame m #[(.long a), (.long mk), (.long b), (.int kk)] maxLocals))
  refine Done.st (B := s₁.setTop (mkF m 0 #[.val (.long a), .second, .val (.long mk), .second, .val (.long b), .second, .val (.int kk), .unset, .unset, .unset, .unset, .unset, .unset, .unset, .unset, .unset, .unset, .unset, .unset, .unset] [])) (fun _ k => castTop (ef_rm0 m a mk b kk) k) ?_
  refine Done.st (B := s₁.setTop (mkF m 2 #[.val (.long a), .second, .val (.long mk), .second, .val (.long b), .second, .val (.int kk), .unset, .unset, .unset, .unset, .unset, .unset, .unset, .unset, .unset, .unset, .unset, .unset, .unset] [(.int kk)])) (fun _ k => XS.iload X0.here hx rfl (hb hby at_0) rfl k) ?_
  refine Done.st (B := s₁.setTop (mkF m 3 #[.val (.long a), .second, .val (.long mk), .second, .val (.long b), .second, .val (.int kk), .unset, .unset, .unset, .unset, .unset, .unset, .unset, .unset, .unset, .unset, .unset, .unset, .unset] [(.int (3 : Int32)), (.int kk)])) (fun _ k => XS.iconst X0.here hx rfl (hb hby at_2) k) ?_
  refine Done.st (B := s₁.setTop (mkF m 4 #[.val (.long a), .second, .val (.long mk), .second, .val (.long b), .second, .val (.int kk), .unset, .unset, .unset, .unset, .unset, .unset, .unset, .unset, .unset, .unset, .unset, .unset, .unset] [(.int (kk &&& (3 : Int32)))])) (fun _ k => XS.iand X0.here hx rfl (hb hby at_3) rfl k) ?_
  refine Done.st (B := s₁.setTop (mkF m 6 #[.val (.long a), .second, .val (.long mk), .second, .val (.long b), .second, .val (.int kk), .val (.int (kk &&& (3 : Int32))), .unset, .unset, .unset, .unset, .unset, .unset, .unset, .unset, .unset, .unset, .unset, .unset] [])) (fun _ k => XS.istore X0.here hx rfl (hb hby at_4) rfl (l' := #[.val (.long a), .second, .val (.long mk), .second, .val (.long b), .second, .val (.int kk), .val (.int (kk &&& (3 : Int32))), .unset, .unset, .unset, .unset, .unset, .unset, .unset, .unset, .unset, .unset, .unset, .unset]) rfl k) ?_
  refine Done.st (B := s₁.setTop (mkF m 8 #[.val (.long a), .second, .val (.long mk), .second, .val (.long b), .second, .val (.int kk), .val (.int (kk &&& (3 : Int32))), .unset, .unset, .unset, .unset, .unset, .unset, .unset, .unset, .unset, .unset, .unset, .unset] [(.int kk)])) (fun _ k => XS.iload X0.here hx rfl (hb hby at_6) rfl k) ?_
  refine Done.st (B := s₁.setTop (mkF m 9 #[.val (.long a), .second, .val (.long mk), .second, .val (.long b), .second, .val (.int kk), .val (.int (kk &&& (3 : Int32))), .unset, .unset, .unset, .unset, .unset, .unset, .unset, .unset, .unset, .unset, .unset, .unset] [(.int (2 : Int32)), (.int kk)])) (fun _ k => XS.iconst X0.here hx rfl (hb hby at_8) k) ?_
  refine Done.st (B := s₁.setTop (mkF m 10 #[.val (.long a), .second, .val (.long mk), .second, .val (.long b), .second, .val (.int kk), .val (.int (kk &&& (3 : Int32))), .unset, .unset, .unset, .unset, .unset, .unset, .unset, .unset, .unset, .unset, .unset, .unset] [(.int ((kk.toUInt32 >>> ((2 : Int32) &&& 31).toUInt32).toInt32))])) (fun _ k => XS.iushr X0.here hx rfl (hb hby at_9) rfl k) ?_
  refine Done.st (B := s₁.setTop (mkF m 11 #[.val (.long a), .second, .val (.long mk), .second, .val (.long b), .second, .val (.int kk), .val (.int (kk &&& (3 : Int32))), .unset, .unset, .unset, .unset, .unset, .unset, .unset, .unset, .unset, .unset, .unset, .unset] [(.int (3 : Int32)), (.int ((kk.toUInt32 >>> ((2 : Int32) &&& 31).toUInt32).toInt32))])) (fun _ k => XS.iconst X0.here hx rfl (hb hby at_10) k) ?_
  refine Done.st (B := s₁.setTop (mkF m 12 #[.val (.long a), .second, .val (.long mk), .second, .val (.long b), .second, .val (.int kk), .val (.int (kk &&& (3 : Int32))), .unset, .unset, .unset, .unset, .unset, .unset, .unset, .unset, .unset, .unset, .unset, .unset] [(.int (((kk.toUInt32 >>> ((2 : Int32) &&& 31).toUInt32).toInt32) % (3 : Int32)))])) (fun _ k => iremM X0 hx rfl (hb hby at_11) rfl (by decide) k) ?_
  refine Done.st (B := s₁.setTop (mkF m 13 #[.val (.long a), .second, .val (.long mk), .second, .val (.long b), .second, .val (.int kk), .val (.int (kk &&& (3 : Int32))), .unset, .unset, .unset, .unset, .unset, .unset, .unset, .unset, .unset, .unset, .unset, .unset] [(.int (1 : Int32)), (.int (((kk.toUInt32 >>> ((2 : Int32) &&& 31).toUInt32).toInt32) % (3 : Int32)))])) (fun _ k => XS.iconst X0.here hx rfl (hb hby at_12) k) ?_
  refine Done.st (B := s₁.setTop (mkF m 14 #[.val (.long a), .second, .val (.long mk), .second, .val (.long b), .second, .val (.int kk), .val (.int (kk &&& (3 : Int32))), .unset, .unset, .unset, .unset, .unset, .unset, .unset, .unset, .unset, .unset, .unset, .unset] [(.int ((((kk.toUInt32 >>> ((2 : Int32) &&& 31).toUInt32).toInt32) % (3 : Int32)) - (1 : Int32)))])) (fun _ k => XS.isub X0.here hx rfl (hb hby at_13) rfl k) ?_
  refine Done.st (B := s₁.setTop (mkF m 15 #[.val (.long a), .second, .val (.long mk), .second, .val (.long b), .second, .val (.int kk), .val (.int (kk &&& (3 : Int32))), .unset, .unset, .unset, .unset, .unset, .unset, .unset, .unset, .unset, .unset, .unset, .unset] [(.long (((((kk.toUInt32 >>> ((2 : Int32) &&& 31).toUInt32).toInt32) % (3 : Int32)) - (1 : Int32)).toInt64))])) (fun _ k => XS.i2l X0.here hx rfl (hb hby at_14) rfl k) ?_
  refine Done.st (B := s₁.setTop (mkF m 17 #[.val (.long a), .second, .val (.long mk), .second, .val (.long b), .second, .val (.int kk), .val (.int (kk &&& (3 : Int32))), .val (.long (((((kk.toUInt32 >>> ((2 : Int32) &&& 31).toUInt32).toInt32) % (3 : Int32)) - (1 : Int32)).toInt64)), .second, .unset, .unset, .unset, .unset, .unset, .unset, .unset, .unset, .unset, .unset] [])) (fun _ k => XS.lstore X0.here hx rfl (hb hby at_15) rfl (l' := #[.val (.long a), .second, .val (.long mk), .second, .val (.long b), .second, .val (.int kk), .val (.int (kk &&& (3 : Int32))), .val (.long (((((kk.toUInt32 >>> ((2 : Int32) &&& 31).toUInt32).toInt32) % (3 : Int32)) - (1 : Int32)).toInt64)), .second, .unset, .unset, .unset, .unset, .unset, .unset, .unset, .unset, .unset, .unset]) rfl k) ?_
  refine Done.st (B := s₁.setTop (mkF m 18 #[.val (.long a), .second, .val (.long mk), .second, .val (.long b), .second, .val (.int kk), .val (.int (kk &&& (3 : Int32))), .val (.long (((((kk.toUInt32 >>> ((2 : Int32) &&& 31).toUInt32).toInt32) % (3 : Int32)) - (1 : Int32)).toInt64)), .second, .unset, .unset, .unset, .unset, .unset, .unset, .unset, .unset, .unset, .unset] [(.long a)])) (fun _ k => XS.lloadN X0.here hx rfl (hb hby at_17) rfl k) ?_
  refine Done.st (B := s₁.setTop (mkF m 20 #[.val (.long a), .second, .val (.long mk), .second, .val (.long b), .second, .val (.int kk), .val (.int (kk &&& (3 : Int32))), .val (.long (((((kk.toUInt32 >>> ((2 : Int32) &&& 31).toUInt32).toInt32) % (3 : Int32)) - (1 : Int32)).toInt64)), .second, .val (.long a), .second, .unset, .unset, .unset, .unset, .unset, .unset, .unset, .unset] [])) (fun _ k => XS.lstore X0.here hx rfl (hb hby at_18) rfl (l' := #[.val (.long a), .second, .val (.long mk), .second, .val (.long b), .second, .val (.int kk), .val (.int (kk &&& (3 : Int32))), .val (.long (((((kk.toUInt32 >>> ((2 : Int32) &&& 31).toUInt32).toInt32) % (3 : Int32)) - (1 : Int32)).toInt64)), .second, .val (.long a), .second, .unset, .unset, .unset, .unset, .unset, .unset, .unset, .unset]) rfl k) ?_
  refine Done.st (B := s₁.setTop (mkF m 22 #[.val (.long a), .second, .val (.long mk), .second, .val (.long b), .second, .val (.int kk), .val (.int (kk &&& (3 : Int32))), .val (.long (((((kk.toUInt32 >>> ((2 : Int32) &&& 31).toUInt32).toInt32) % (3 : Int32)) - (1 : Int32)).toInt64)), .second, .val (.long a), .second, .unset, .unset, .unset, .unset, .unset, .unset, .unset, .unset] [(.long b)])) (fun _ k => XS.lload X0.here hx rfl (hb hby at_20) rfl k) ?_
  refine Done.st (B := s₁.setTop (mkF m 24 #[.val (.long a), .second, .val (.long mk), .second, .val (.long b), .second, .val (.int kk), .val (.int (kk &&& (3 : Int32))), .val (.long (((((kk.toUInt32 >>> ((2 : Int32) &&& 31).toUInt32).toInt32) % (3 : Int32)) - (1 : Int32)).toInt64)), .second, .val (.long a), .second, .val (.long b), .second, .unset, .unset, .unset, .unset, .unset, .unset] [])) (fun _ k => XS.lstore X0.here hx rfl (hb hby at_22) rfl (l' := #[.val (.long a), .second, .val (.long mk), .second, .val (.long b), .second, .val (.int kk), .val (.int (kk &&& (3 : Int32))), .val (.long (((((kk.toUInt32 >>> ((2 : Int32) &&& 31).toUInt32).toInt32) % (3 : Int32)) - (1 : Int32)).toInt64)), .second, .val (.long a), .second, .val (.long b), .second, .unset, .unset, .unset, .unset, .unset, .unset]) rfl k) ?_
  have j67 : ∀ (pid : Int64) (last : Int64), Done p e below (Prm0 s Z a mk b kk h0 n0) (s₁.setTop (mkF m 67 #[.val (.long a), .second, .val (.long mk), .second, .val (.long b), .second, .val (.int kk), .val (.int (kk &&& (3 : Int32))), .val (.long (((((kk.toUInt32 >>> ((2 : Int32) &&& 31).toUInt32).toInt32) % (3 : Int32)) - (1 : Int32)).toInt64)), .second, .val (.long pid), .second, .val (.long last), .second, .unset, .unset, .unset, .unset, .unset, .unset] [])) := by
    intro pid last 
    refine Done.st (B := s₁.setTop (mkF m 69 #[.val (.long a), .second, .val (.long mk), .second, .val (.long b), .second, .val (.int kk), .val (.int (kk &&& (3 : Int32))), .val (.long (((((kk.toUInt32 >>> ((2 : Int32) &&& 31).toUInt32).toInt32) % (3 : Int32)) - (1 : Int32)).toInt64)), .second, .val (.long pid), .second, .val (.long last), .second, .unset, .unset, .unset, .unset, .unset, .unset] [(.long pid)])) (fun _ k => XS.lload X0.here hx rfl (hb hby at_67) rfl k) ?_
    refine Done.st (B := s₁.setTop (mkF m 70 #[.val (.long a), .second, .val (.long mk), .second, .val (.long b), .second, .val (.int kk), .val (.int (kk &&& (3 : Int32))), .val (.long (((((kk.toUInt32 >>> ((2 : Int32) &&& 31).toUInt32).toInt32) % (3 : Int32)) - (1 : Int32)).toInt64)), .second, .val (.long pid), .second, .val (.long last), .second, .unset, .unset, .unset, .unset, .unset, .unset] [(.long mk), (.long pid)])) (fun _ k => XS.lloadN X0.here hx rfl (hb hby at_69) rfl k) ?_
    refine Done.st (B := s₁.setTop (mkF m 72 #[.val (.long a), .second, .val (.long mk), .second, .val (.long b), .second, .val (.int kk), .val (.int (kk &&& (3 : Int32))), .val (.long (((((kk.toUInt32 >>> ((2 : Int32) &&& 31).toUInt32).toInt32) % (3 : Int32)) - (1 : Int32)).toInt64)), .second, .val (.long pid), .second, .val (.long last), .second, .unset, .unset, .unset, .unset, .unset, .unset] [(.long last), (.long mk), (.long pid)])) (fun _ k => XS.lload X0.here hx rfl (hb hby at_70) rfl k) ?_
    obtain ⟨_, _, ⟨T1, L1, k1, n1⟩, -, X1, ⟨Lc1, hQ1, l1, y1, z1⟩, st1⟩ := Jvm.LawKit.callS X0 hx (y := (⟨"hasp/cli/ProcessTree", "handedOutAfter", "(JJJ)Z"⟩ : MethodName)) hown (mvT hZ (hw _ (List.mem_of_getElem? (i := 0) rfl))) (mvT hZ (hw _ (List.mem_of_getElem? (i := 1) rfl))) (mvT hZ (hw _ (List.mem_of_getElem? (i := 2) rfl))) (mvT hZ (hw _ (List.mem_of_getElem? (i := 3) rfl))) (by decide) (backOf (W := 0) (rm1 l Z a0 hw [] pid mk last h0 n0 Z0) hZ (hw _ (List.mem_of_getElem? (i := 3) rfl)) (hw _ (List.mem_of_getElem? (i := 2) rfl)) (by decide) (by decide)) (g := (mkF m 72 #[.val (.long a), .second, .val (.long mk), .second, .val (.long b), .second, .val (.int kk), .val (.int (kk &&& (3 : Int32))), .val (.long (((((kk.toUInt32 >>> ((2 : Int32) &&& 31).toUInt32).toInt32) % (3 : Int32)) - (1 : Int32)).toInt64)), .second, .val (.long pid), .second, .val (.long last), .second, .unset, .unset, .unset, .unset, .unset, .unset] [(.long last), (.long mk), (.long pid)])) rfl (by rw [hml]; rfl) (argsL := [(.long pid), (.long mk), (.long last)]) (rest := []) (lenOf pd_0 rfl) rfl (by show 2 * 0 + _ ≤ _; exact Nat.le_of_eq rfl) (hb hby at_72) (fun _ _ => ⟨rfl, e0, (by decide : 0 + 0 ≤ _), (by decide : 0 + 0 ≤ _)⟩)
    dsimp only [Pt.U, Pt.locs, Pt.cells, Pt.slots] at X1 l1 y1 z1 st1 hQ1
    subst l1 y1 z1
    obtain ⟨rfl, N1q, e1⟩ := hQ1
    have N1 := Fr.app N0 N1q
    refine Done.st (B := T1.setTop (mkF m 75 #[.val (.long a), .second, .val (.long mk), .second, .val (.long b), .second, .val (.int kk), .val (.int (kk &&& (3 : Int32))), .val (.long (((((kk.toUInt32 >>> ((2 : Int32) &&& 31).toUInt32).toInt32) % (3 : Int32)) - (1 : Int32)).toInt64)), .second, .val (.long pid), .second, .val (.long last), .second, .unset, .unset, .unset, .unset, .unset, .unset] [(.int (own_ho pid mk last))])) (fun _ k => st1 _ k) ?_
    refine Done.st (B := T1.setTop (mkF m 77 #[.val (.long a), .second, .val (.long mk), .second, .val (.long b), .second, .val (.int kk), .val (.int (kk &&& (3 : Int32))), .val (.long (((((kk.toUInt32 >>> ((2 : Int32) &&& 31).toUInt32).toInt32) % (3 : Int32)) - (1 : Int32)).toInt64)), .second, .val (.long pid), .second, .val (.long last), .second, .val (.int (own_ho pid mk last)), .unset, .unset, .unset, .unset, .unset] [])) (fun _ k => XS.istore X1.here hx rfl (hb hby at_75) rfl (l' := #[.val (.long a), .second, .val (.long mk), .second, .val (.long b), .second, .val (.int kk), .val (.int (kk &&& (3 : Int32))), .val (.long (((((kk.toUInt32 >>> ((2 : Int32) &&& 31).toUInt32).toInt32) % (3 : Int32)) - (1 : Int32)).toInt64)), .second, .val (.long pid), .second, .val (.long last), .second, .val (.int (own_ho pid mk last)), .unset, .unset, .unset, .unset, .unset]) rfl k) ?_
    refine Done.st (B := T1.setTop (mkF m 79 #[.val (.long a), .second, .val (.long mk), .second, .val (.long b), .second, .val (.int kk), .val (.int (kk &&& (3 : Int32))), .val (.long (((((kk.toUInt32 >>> ((2 : Int32) &&& 31).toUInt32).toInt32) % (3 : Int32)) - (1 : Int32)).toInt64)), .second, .val (.long pid), .second, .val (.long last), .second, .val (.int (own_ho pid mk last)), .unset, .unset, .unset, .unset, .unset] [(.long pid)])) (fun _ k => XS.lload X1.here hx rfl (hb hby at_77) rfl k) ?_
    refine Done.st (B := T1.setTop (mkF m 80 #[.val (.long a), .second, .val (.long mk), .second, .val (.long b), .second, .val (.int kk), .val (.int (kk &&& (3 : Int32))), .val (.long (((((kk.toUInt32 >>> ((2 : Int32) &&& 31).toUInt32).toInt32) % (3 : Int32)) - (1 : Int32)).toInt64)), .second, .val (.long pid), .second, .val (.long last), .second, .val (.int (own_ho pid mk last)), .unset, .unset, .unset, .unset, .unset] [(.long mk), (.long pid)])) (fun _ k => XS.lloadN X1.here hx rfl (hb hby at_79) rfl k) ?_
    refine Done.st (B := T1.setTop (mkF m 81 #[.val (.long a), .second, .val (.long mk), .second, .val (.long b), .second, .val (.int kk), .val (.int (kk &&& (3 : Int32))), .val (.long (((((kk.toUInt32 >>> ((2 : Int32) &&& 31).toUInt32).toInt32) % (3 : Int32)) - (1 : Int32)).toInt64)), .second, .val (.long pid), .second, .val (.long last), .second, .val (.int (own_ho pid mk last)), .unset, .unset, .unset, .unset, .unset] [(.long (pid - mk))])) (fun _ k => XS.lsub X1.here hx rfl (hb hby at_80) rfl k) ?_
    refine Done.st (B := T1.setTop (mkF m 83 #[.val (.long a), .second, .val (.long mk), .second, .val (.long b), .second, .val (.int kk), .val (.int (kk &&& (3 : Int32))), .val (.long (((((kk.toUInt32 >>> ((2 : Int32) &&& 31).toUInt32).toInt32) % (3 : Int32)) - (1 : Int32)).toInt64)), .second, .val (.long pid), .second, .val (.long last), .second, .val (.int (own_ho pid mk last)), .val (.long (pid - mk)), .second, .unset, .unset, .unset] [])) (fun _ k => XS.lstore X1.here hx rfl (hb hby at_81) rfl (l' := #[.val (.long a), .second, .val (.long mk), .second, .val (.long b), .second, .val (.int kk), .val (.int (kk &&& (3 : Int32))), .val (.long (((((kk.toUInt32 >>> ((2 : Int32) &&& 31).toUInt32).toInt32) % (3 : Int32)) - (1 : Int32)).toInt64)), .second, .val (.long pid), .second, .val (.long last), .second, .val (.int (own_ho pid mk last)), .val (.long (pid - mk)), .second, .unset, .unset, .unset]) rfl k) ?_
    refine Done.st (B := T1.setTop (mkF m 85 #[.val (.long a), .second, .val (.long mk), .second, .val (.long b), .second, .val (.int kk), .val (.int (kk &&& (3 : Int32))), .val (.long (((((kk.toUInt32 >>> ((2 : Int32) &&& 31).toUInt32).toInt32) % (3 : Int32)) - (1 : Int32)).toInt64)), .second, .val (.long pid), .second, .val (.long last), .second, .val (.int (own_ho pid mk last)), .val (.long (pid - mk)), .second, .unset, .unset, .unset] [(.long last)])) (fun _ k => XS.lload X1.here hx rfl (hb hby at_83) rfl k) ?_
    refine Done.st (B := T1.setTop (mkF m 86 #[.val (.long a), .second, .val (.long mk), .second, .val (.long b), .second, .val (.int kk), .val (.int (kk &&& (3 : Int32))), .val (.long (((((kk.toUInt32 >>> ((2 : Int32) &&& 31).toUInt32).toInt32) % (3 : Int32)) - (1 : Int32)).toInt64)), .second, .val (.long pid), .second, .val (.long last), .second, .val (.int (own_ho pid mk last)), .val (.long (pid - mk)), .second, .unset, .unset, .unset] [(.long mk), (.long last)])) (fun _ k => XS.lloadN X1.here hx rfl (hb hby at_85) rfl k) ?_
    refine Done.st (B := T1.setTop (mkF m 87 #[.val (.long a), .second, .val (.long mk), .second, .val (.long b), .second, .val (.int kk), .val (.int (kk &&& (3 : Int32))), .val (.long (((((kk.toUInt32 >>> ((2 : Int32) &&& 31).toUInt32).toInt32) % (3 : Int32)) - (1 : Int32)).toInt64)), .second, .val (.long pid), .second, .val (.long last), .second, .val (.int (own_ho pid mk last)), .val (.long (pid - mk)), .second, .unset, .unset, .unset] [(.long (last - mk))])) (fun _ k => XS.lsub X1.here hx rfl (hb hby at_86) rfl k) ?_
    refine Done.st (B := T1.setTop (mkF m 89 #[.val (.long a), .second, .val (.long mk), .second, .val (.long b), .second, .val (.int kk), .val (.int (kk &&& (3 : Int32))), .val (.long (((((kk.toUInt32 >>> ((2 : Int32) &&& 31).toUInt32).toInt32) % (3 : Int32)) - (1 : Int32)).toInt64)), .second, .val (.long pid), .second, .val (.long last), .second, .val (.int (own_ho pid mk last)), .val (.long (pid - mk)), .second, .val (.long (last - mk)), .second, .unset] [])) (fun _ k => XS.lstore X1.here hx rfl (hb hby at_87) rfl (l' := #[.val (.long a), .second, .val (.long mk), .second, .val (.long b), .second, .val (.int kk), .val (.int (kk &&& (3 : Int32))), .val (.long (((((kk.toUInt32 >>> ((2 : Int32) &&& 31).toUInt32).toInt32) % (3 : Int32)) - (1 : Int32)).toInt64)), .second, .val (.long pid), .second, .val (.long last), .second, .val (.int (own_ho pid mk last)), .val (.long (pid - mk)), .second, .val (.long (last - mk)), .second, .unset]) rfl k) ?_
    refine Done.st (B := T1.setTop (mkF m 91 #[.val (.long a), .second, .val (.long mk), .second, .val (.long b), .second, .val (.int kk), .val (.int (kk &&& (3 : Int32))), .val (.long (((((kk.toUInt32 >>> ((2 : Int32) &&& 31).toUInt32).toInt32) % (3 : Int32)) - (1 : Int32)).toInt64)), .second, .val (.long pid), .second, .val (.long last), .second, .val (.int (own_ho pid mk last)), .val (.long (pid - mk)), .second, .val (.long (last - mk)), .second, .unset] [(.long (pid - mk))])) (fun _ k => XS.lload X1.here hx rfl (hb hby at_89) rfl k) ?_
    refine Done.st (B := T1.setTop (mkF m 92 #[.val (.long a), .second, .val (.long mk), .second, .val (.long b), .second, .val (.int kk), .val (.int (kk &&& (3 : Int32))), .val (.long (((((kk.toUInt32 >>> ((2 : Int32) &&& 31).toUInt32).toInt32) % (3 : Int32)) - (1 : Int32)).toInt64)), .second, .val (.long pid), .second, .val (.long last), .second, .val (.int (own_ho pid mk last)), .val (.long (pid - mk)), .second, .val (.long (last - mk)), .second, .unset] [(.long (0 : Int64)), (.long (pid - mk))])) (fun _ k => XS.lconst X1.here hx rfl (hb hby at_91) k) ?_
    refine Done.st (B := T1.setTop (mkF m 93 #[.val (.long a), .second, .val (.long mk), .second, .val (.long b), .second, .val (.int kk), .val (.int (kk &&& (3 : Int32))), .val (.long (((((kk.toUInt32 >>> ((2 : Int32) &&& 31).toUInt32).toInt32) % (3 : Int32)) - (1 : Int32)).toInt64)), .second, .val (.long pid), .second, .val (.long last), .second, .val (.int (own_ho pid mk last)), .val (.long (pid - mk)), .second, .val (.long (last - mk)), .second, .unset] [(.int (lcmpW (pid - mk) (0 : Int64)))])) (fun _ k => XS.lcmp X1.here hx rfl (hb hby at_92) rfl k) ?_
    by_cases hc93 : (pid - mk) = (0 : Int64)
    · refine Done.st (B := T1.setTop (mkF m 110 #[.val (.long a), .second, .val (.long mk), .second, .val (.long b), .second, .val (.int kk), .val (.int (kk &&& (3 : Int32))), .val (.long (((((kk.toUInt32 >>> ((2 : Int32) &&& 31).toUInt32).toInt32) % (3 : Int32)) - (1 : Int32)).toInt64)), .second, .val (.long pid), .second, .val (.long last), .second, .val (.int (own_ho pid mk last)), .val (.long (pid - mk)), .second, .val (.long (last - mk)), .second, .unset] [])) (fun _ k => XS.ifYes X1.here hx rfl (pc0 := 93) (pc' := 110) rfl (hb hby at_93) rfl ((if0 _ _).trans (teq ((lw_eq _ _).mpr hc93)).1) (by decide) (by decide) k) ?_
      refine Done.st (B := T1.setTop (mkF m 111 #[.val (.long a), .second, .val (.long mk), .second, .val (.long b), .second, .val (.int kk), .val (.int (kk &&& (3 : Int32))), .val (.long (((((kk.toUInt32 >>> ((2 : Int32) &&& 31).toUInt32).toInt32) % (3 : Int32)) - (1 : Int32)).toInt64)), .second, .val (.long pid), .second, .val (.long last), .second, .val (.int (own_ho pid mk last)), .val (.long (pid - mk)), .second, .val (.long (last - mk)), .second, .unset] [(.int (0 : Int32))])) (fun _ k => XS.iconst X1.here hx rfl (hb hby at_110) k) ?_
      refine Done.st (B := T1.setTop (mkF m 113 #[.val (.long a), .second, .val (.long mk), .second, .val (.long b), .second, .val (.int kk), .val (.int (kk &&& (3 : Int32))), .val (.long (((((kk.toUInt32 >>> ((2 : Int32) &&& 31).toUInt32).toInt32) % (3 : Int32)) - (1 : Int32)).toInt64)), .second, .val (.long pid), .second, .val (.long last), .second, .val (.int (own_ho pid mk last)), .val (.long (pid - mk)), .second, .val (.long (last - mk)), .second, .val (.int (0 : Int32))] [])) (fun _ k => XS.istore X1.here hx rfl (hb hby at_111) rfl (l' := #[.val (.long a), .second, .val (.long mk), .second, .val (.long b), .second, .val (.int kk), .val (.int (kk &&& (3 : Int32))), .val (.long (((((kk.toUInt32 >>> ((2 : Int32) &&& 31).toUInt32).toInt32) % (3 : Int32)) - (1 : Int32)).toInt64)), .second, .val (.long pid), .second, .val (.long last), .second, .val (.int (own_ho pid mk last)), .val (.long (pid - mk)), .second, .val (.long (last - mk)), .second, .val (.int (0 : Int32))]) rfl k) ?_
      refine Done.st (B := T1.setTop (mkF m 115 #[.val (.long a), .second, .val (.long mk), .second, .val (.long b), .second, .val (.int kk), .val (.int (kk &&& (3 : Int32))), .val (.long (((((kk.toUInt32 >>> ((2 : Int32) &&& 31).toUInt32).toInt32) % (3 : Int32)) - (1 : Int32)).toInt64)), .second, .val (.long pid), .second, .val (.long last), .second, .val (.int (own_ho pid mk last)), .val (.long (pid - mk)), .second, .val (.long (last - mk)), .second, .val (.int (0 : Int32))] [(.int (own_ho pid mk last))])) (fun _ k => XS.iload X1.here hx rfl (hb hby at_113) rfl k) ?_
      refine Done.st (B := T1.setTop (mkF m 117 #[.val (.long a), .second, .val (.long mk), .second, .val (.long b), .second, .val (.int kk), .val (.int (kk &&& (3 : Int32))), .val (.long (((((kk.toUInt32 >>> ((2 : Int32) &&& 31).toUInt32).toInt32) % (3 : Int32)) - (1 : Int32)).toInt64)), .second, .val (.long pid), .second, .val (.long last), .second, .val (.int (own_ho pid mk last)), .val (.long (pid - mk)), .second, .val (.long (last - mk)), .second, .val (.int (0 : Int32))] [(.int (0 : Int32)), (.int (own_ho pid mk last))])) (fun _ k => XS.iload X1.here hx rfl (hb hby at_115) rfl k) ?_
      by_cases hc117 : (own_ho pid mk last) = (0 : Int32)
      · refine Done.st (B := T1.setTop (mkF m 120 #[.val (.long a), .second, .val (.long mk), .second, .val (.long b), .second, .val (.int kk), .val (.int (kk &&& (3 : Int32))), .val (.long (((((kk.toUInt32 >>> ((2 : Int32) &&& 31).toUInt32).toInt32) % (3 : Int32)) - (1 : Int32)).toInt64)), .second, .val (.long pid), .second, .val (.long last), .second, .val (.int (own_ho pid mk last)), .val (.long (pid - mk)), .second, .val (.long (last - mk)), .second, .val (.int (0 : Int32))] [])) (fun _ k => XS.icmpNo X1.here hx rfl (hb hby at_117) rfl (teq hc117).2 k) ?_
        refine Done.st (B := T1.setTop (mkF m 121 #[.val (.long a), .second, .val (.long mk), .second, .val (.long b), .second, .val (.int kk), .val (.int (kk &&& (3 : Int32))), .val (.long (((((kk.toUInt32 >>> ((2 : Int32) &&& 31).toUInt32).toInt32) % (3 : Int32)) - (1 : Int32)).toInt64)), .second, .val (.long pid), .second, .val (.long last), .second, .val (.int (own_ho pid mk last)), .val (.long (pid - mk)), .second, .val (.long (last - mk)), .second, .val (.int (0 : Int32))] [(.int (1 : Int32))])) (fun _ k => XS.iconst X1.here hx rfl (hb hby at_120) k) ?_
        refine Done.st (B := T1.setTop (mkF m 125 #[.val (.long a), .second, .val (.long mk), .second, .val (.long b), .second, .val (.int kk), .val (.int (kk &&& (3 : Int32))), .val (.long (((((kk.toUInt32 >>> ((2 : Int32) &&& 31).toUInt32).toInt32) % (3 : Int32)) - (1 : Int32)).toInt64)), .second, .val (.long pid), .second, .val (.long last), .second, .val (.int (own_ho pid mk last)), .val (.long (pid - mk)), .second, .val (.long (last - mk)), .second, .val (.int (0 : Int32))] [(.int (1 : Int32))])) (fun _ k => XS.goto X1.here hx rfl (pc0 := 121) (pc' := 125) rfl (hb hby at_121) (by decide) (by decide) k) ?_
        obtain ⟨fs, hr, hrun, hended, hW, hsame⟩ := X1.leave (v := some (.int (1 : Int32))) (hlocks := hlk) (fun h => by rw [Bd.returns] at h; cases h)
        refine Done.fin (retN X1 hx (t := .boolean) Bd.returns (by simp) (hb hby at_125) hr) hrun hended ⟨_, _, rfl, ?_, ⟨_, rfl⟩, hW, hsame.mono (by decide) (by decide)⟩
        show Qrm0 Z a mk b kk h0 n0 _ T1.heap _
        rw [e1]
        exact ⟨rfl, N1⟩
      · refine Done.st (B := T1.setTop (mkF m 124 #[.val (.long a), .second, .val (.long mk), .second, .val (.long b), .second, .val (.int kk), .val (.int (kk &&& (3 : Int32))), .val (.long (((((kk.toUInt32 >>> ((2 : Int32) &&& 31).toUInt32).toInt32) % (3 : Int32)) - (1 : Int32)).toInt64)), .second, .val (.long pid), .second, .val (.long last), .second, .val (.int (own_ho pid mk last)), .val (.long (pid - mk)), .second, .val (.long (last - mk)), .second, .val (.int (0 : Int32))] [])) (fun _ k => XS.icmpYes X1.here hx rfl (pc0 := 117) (pc' := 124) rfl (hb hby at_117) rfl (feq hc117).2 (by decide) (by decide) k) ?_
        refine Done.st (B := T1.setTop (mkF m 125 #[.val (.long a), .second, .val (.long mk), .second, .val (.long b), .second, .val (.int kk), .val (.int (kk &&& (3 : Int32))), .val (.long (((((kk.toUInt32 >>> ((2 : Int32) &&& 31).toUInt32).toInt32) % (3 : Int32)) - (1 : Int32)).toInt64)), .second, .val (.long pid), .second, .val (.long last), .second, .val (.int (own_ho pid mk last)), .val (.long (pid - mk)), .second, .val (.long (last - mk)), .second, .val (.int (0 : Int32))] [(.int (0 : Int32))])) (fun _ k => XS.iconst X1.here hx rfl (hb hby at_124) k) ?_
        exact (own_no1 hc93 hc117).elim
    · refine Done.st (B := T1.setTop (mkF m 96 #[.val (.long a), .second, .val (.long mk), .second, .val (.long b), .second, .val (.int kk), .val (.int (kk &&& (3 : Int32))), .val (.long (((((kk.toUInt32 >>> ((2 : Int32) &&& 31).toUInt32).toInt32) % (3 : Int32)) - (1 : Int32)).toInt64)), .second, .val (.long pid), .second, .val (.long last), .second, .val (.int (own_ho pid mk last)), .val (.long (pid - mk)), .second, .val (.long (last - mk)), .second, .unset] [])) (fun _ k => XS.ifNo X1.here hx rfl (hb hby at_93) rfl ((if0 _ _).trans (feq (fun z => hc93 ((lw_eq _ _).mp z))).1) k) ?_
      refine Done.st (B := T1.setTop (mkF m 98 #[.val (.long a), .second, .val (.long mk), .second, .val (.long b), .second, .val (.int kk), .val (.int (kk &&& (3 : Int32))), .val (.long (((((kk.toUInt32 >>> ((2 : Int32) &&& 31).toUInt32).toInt32) % (3 : Int32)) - (1 : Int32)).toInt64)), .second, .val (.long pid), .second, .val (.long last), .second, .val (.int (own_ho pid mk last)), .val (.long (pid - mk)), .second, .val (.long (last - mk)), .second, .unset] [(.long (pid - mk))])) (fun _ k => XS.lload X1.here hx rfl (hb hby at_96) rfl k) ?_
      refine Done.st (B := T1.setTop (mkF m 100 #[.val (.long a), .second, .val (.long mk), .second, .val (.long b), .second, .val (.int kk), .val (.int (kk &&& (3 : Int32))), .val (.long (((((kk.toUInt32 >>> ((2 : Int32) &&& 31).toUInt32).toInt32) % (3 : Int32)) - (1 : Int32)).toInt64)), .second, .val (.long pid), .second, .val (.long last), .second, .val (.int (own_ho pid mk last)), .val (.long (pid - mk)), .second, .val (.long (last - mk)), .second, .unset] [(.long (last - mk)), (.long (pid - mk))])) (fun _ k => XS.lload X1.here hx rfl (hb hby at_98) rfl k) ?_
      obtain ⟨_, _, ⟨T3, L3, k3, n3⟩, -, X3, ⟨Lc3, hQ3, l3, y3, z3⟩, st3⟩ := Jvm.LawKit.callS X1 hx (y := (⟨"hasp/cli/ProcessTreeHandedOutAfterPinLaw", "unsignedAtMost", "(JJ)Z"⟩ : MethodName)) hown (mvT hZ (hw _ (List.mem_of_getElem? (i := 4) rfl))) (mvT hZ (hw _ (List.mem_of_getElem? (i := 5) rfl))) (mvT hZ (hw _ (List.mem_of_getElem? (i := 6) rfl))) (mvT hZ (hw _ (List.mem_of_getElem? (i := 7) rfl))) (by decide) (backOf (W := 0) (rm2 l Z a0 hw [] (pid - mk) (last - mk) h0 n0 Z0) hZ (hw _ (List.mem_of_getElem? (i := 7) rfl)) (hw _ (List.mem_of_getElem? (i := 6) rfl)) (by decide) (by decide)) (g := (mkF m 100 #[.val (.long a), .second, .val (.long mk), .second, .val (.long b), .second, .val (.int kk), .val (.int (kk &&& (3 : Int32))), .val (.long (((((kk.toUInt32 >>> ((2 : Int32) &&& 31).toUInt32).toInt32) % (3 : Int32)) - (1 : Int32)).toInt64)), .second, .val (.long pid), .second, .val (.long last), .second, .val (.int (own_ho pid mk last)), .val (.long (pid - mk)), .second, .val (.long (last - mk)), .second, .unset] [(.long (last - mk)), (.long (pid - mk))])) rfl (by rw [hml]; rfl) (argsL := [(.long (pid - mk)), (.long (last - mk))]) (rest := []) (lenOf pd_1 rfl) rfl (by show 2 * 0 + _ ≤ _; exact Nat.le_of_eq rfl) (hb hby at_100) (fun _ _ => ⟨rfl, e1, (by decide : 0 + 0 ≤ _), (by decide : 0 + 0 ≤ _)⟩)
      dsimp only [Pt.U, Pt.locs, Pt.cells, Pt.slots] at X3 l3 y3 z3 st3 hQ3
      subst l3 y3 z3
      obtain ⟨rfl, N3q, e3⟩ := hQ3
      have N3 := Fr.app N1 N3q
      refine Done.st (B := T3.setTop (mkF m 103 #[.val (.long a), .second, .val (.long mk), .second, .val (.long b), .second, .val (.int kk), .val (.int (kk &&& (3 : Int32))), .val (.long (((((kk.toUInt32 >>> ((2 : Int32) &&& 31).toUInt32).toInt32) % (3 : Int32)) - (1 : Int32)).toInt64)), .second, .val (.long pid), .second, .val (.long last), .second, .val (.int (own_ho pid mk last)), .val (.long (pid - mk)), .second, .val (.long (last - mk)), .second, .unset] [(.int (own_ua (pid - mk) (last - mk)))])) (fun _ k => st3 _ k) ?_
      by_cases hc103 : (own_ua (pid - mk) (last - mk)) = (0 : Int32)
      · refine Done.st (B := T3.setTop (mkF m 110 #[.val (.long a), .second, .val (.long mk), .second, .val (.long b), .second, .val (.int kk), .val (.int (kk &&& (3 : Int32))), .val (.long (((((kk.toUInt32 >>> ((2 : Int32) &&& 31).toUInt32).toInt32) % (3 : Int32)) - (1 : Int32)).toInt64)), .second, .val (.long pid), .second, .val (.long last), .second, .val (.int (own_ho pid mk last)), .val (.long (pid - mk)), .second, .val (.long (last - mk)), .second, .unset] [])) (fun _ k => XS.ifYes X3.here hx rfl (pc0 := 103) (pc' := 110) rfl (hb hby at_103) rfl ((if0 _ _).trans (teq hc103).1) (by decide) (by decide) k) ?_
        refine Done.st (B := T3.setTop (mkF m 111 #[.val (.long a), .second, .val (.long mk), .second, .val (.long b), .second, .val (.int kk), .val (.int (kk &&& (3 : Int32))), .val (.long (((((kk.toUInt32 >>> ((2 : Int32) &&& 31).toUInt32).toInt32) % (3 : Int32)) - (1 : Int32)).toInt64)), .second, .val (.long pid), .second, .val (.long last), .second, .val (.int (own_ho pid mk last)), .val (.long (pid - mk)), .second, .val (.long (last - mk)), .second, .unset] [(.int (0 : Int32))])) (fun _ k => XS.iconst X3.here hx rfl (hb hby at_110) k) ?_
        refine Done.st (B := T3.setTop (mkF m 113 #[.val (.long a), .second, .val (.long mk), .second, .val (.long b), .second, .val (.int kk), .val (.int (kk &&& (3 : Int32))), .val (.long (((((kk.toUInt32 >>> ((2 : Int32) &&& 31).toUInt32).toInt32) % (3 : Int32)) - (1 : Int32)).toInt64)), .second, .val (.long pid), .second, .val (.long last), .second, .val (.int (own_ho pid mk last)), .val (.long (pid - mk)), .second, .val (.long (last - mk)), .second, .val (.int (0 : Int32))] [])) (fun _ k => XS.istore X3.here hx rfl (hb hby at_111) rfl (l' := #[.val (.long a), .second, .val (.long mk), .second, .val (.long b), .second, .val (.int kk), .val (.int (kk &&& (3 : Int32))), .val (.long (((((kk.toUInt32 >>> ((2 : Int32) &&& 31).toUInt32).toInt32) % (3 : Int32)) - (1 : Int32)).toInt64)), .second, .val (.long pid), .second, .val (.long last), .second, .val (.int (own_ho pid mk last)), .val (.long (pid - mk)), .second, .val (.long (last - mk)), .second, .val (.int (0 : Int32))]) rfl k) ?_
        refine Done.st (B := T3.setTop (mkF m 115 #[.val (.long a), .second, .val (.long mk), .second, .val (.long b), .second, .val (.int kk), .val (.int (kk &&& (3 : Int32))), .val (.long (((((kk.toUInt32 >>> ((2 : Int32) &&& 31).toUInt32).toInt32) % (3 : Int32)) - (1 : Int32)).toInt64)), .second, .val (.long pid), .second, .val (.long last), .second, .val (.int (own_ho pid mk last)), .val (.long (pid - mk)), .second, .val (.long (last - mk)), .second, .val (.int (0 : Int32))] [(.int (own_ho pid mk last))])) (fun _ k => XS.iload X3.here hx rfl (hb hby at_113) rfl k) ?_
        refine Done.st (B := T3.setTop (mkF m 117 #[.val (.long a), .second, .val (.long mk), .second, .val (.long b), .second, .val (.int kk), .val (.int (kk &&& (3 : Int32))), .val (.long (((((kk.toUInt32 >>> ((2 : Int32) &&& 31).toUInt32).toInt32) % (3 : Int32)) - (1 : Int32)).toInt64)), .second, .val (.long pid), .second, .val (.long last), .second, .val (.int (own_ho pid mk last)), .val (.long (pid - mk)), .second, .val (.long (last - mk)), .second, .val (.int (0 : Int32))] [(.int (0 : Int32)), (.int (own_ho pid mk last))])) (fun _ k => XS.iload X3.here hx rfl (hb hby at_115) rfl k) ?_
        by_cases hc117 : (own_ho pid mk last) = (0 : Int32)
        · refine Done.st (B := T3.setTop (mkF m 120 #[.val (.long a), .second, .val (.long mk), .second, .val (.long b), .second, .val (.int kk), .val (.int (kk &&& (3 : Int32))), .val (.long (((((kk.toUInt32 >>> ((2 : Int32) &&& 31).toUInt32).toInt32) % (3 : Int32)) - (1 : Int32)).toInt64)), .second, .val (.long pid), .second, .val (.long last), .second, .val (.int (own_ho pid mk last)), .val (.long (pid - mk)), .second, .val (.long (last - mk)), .second, .val (.int (0 : Int32))] [])) (fun _ k => XS.icmpNo X3.here hx rfl (hb hby at_117) rfl (teq hc117).2 k) ?_
          refine Done.st (B := T3.setTop (mkF m 121 #[.val (.long a), .second, .val (.long mk), .second, .val (.long b), .second, .val (.int kk), .val (.int (kk &&& (3 : Int32))), .val (.long (((((kk.toUInt32 >>> ((2 : Int32) &&& 31).toUInt32).toInt32) % (3 : Int32)) - (1 : Int32)).toInt64)), .second, .val (.long pid), .second, .val (.long last), .second, .val (.int (own_ho pid mk last)), .val (.long (pid - mk)), .second, .val (.long (last - mk)), .second, .val (.int (0 : Int32))] [(.int (1 : Int32))])) (fun _ k => XS.iconst X3.here hx rfl (hb hby at_120) k) ?_
          refine Done.st (B := T3.setTop (mkF m 125 #[.val (.long a), .second, .val (.long mk), .second, .val (.long b), .second, .val (.int kk), .val (.int (kk &&& (3 : Int32))), .val (.long (((((kk.toUInt32 >>> ((2 : Int32) &&& 31).toUInt32).toInt32) % (3 : Int32)) - (1 : Int32)).toInt64)), .second, .val (.long pid), .second, .val (.long last), .second, .val (.int (own_ho pid mk last)), .val (.long (pid - mk)), .second, .val (.long (last - mk)), .second, .val (.int (0 : Int32))] [(.int (1 : Int32))])) (fun _ k => XS.goto X3.here hx rfl (pc0 := 121) (pc' := 125) rfl (hb hby at_121) (by decide) (by decide) k) ?_
          obtain ⟨fs, hr, hrun, hended, hW, hsame⟩ := X3.leave (v := some (.int (1 : Int32))) (hlocks := hlk) (fun h => by rw [Bd.returns] at h; cases h)
          refine Done.fin (retN X3 hx (t := .boolean) Bd.returns (by simp) (hb hby at_125) hr) hrun hended ⟨_, _, rfl, ?_, ⟨_, rfl⟩, hW, hsame.mono (by decide) (by decide)⟩
          show Qrm0 Z a mk b kk h0 n0 _ T3.heap _
          rw [e3]
          exact ⟨rfl, N3⟩
        · refine Done.st (B := T3.setTop (mkF m 124 #[.val (.long a), .second, .val (.long mk), .second, .val (.long b), .second, .val (.int kk), .val (.int (kk &&& (3 : Int32))), .val (.long (((((kk.toUInt32 >>> ((2 : Int32) &&& 31).toUInt32).toInt32) % (3 : Int32)) - (1 : Int32)).toInt64)), .second, .val (.long pid), .second, .val (.long last), .second, .val (.int (own_ho pid mk last)), .val (.long (pid - mk)), .second, .val (.long (last - mk)), .second, .val (.int (0 : Int32))] [])) (fun _ k => XS.icmpYes X3.here hx rfl (pc0 := 117) (pc' := 124) rfl (hb hby at_117) rfl (feq hc117).2 (by decide) (by decide) k) ?_
          refine Done.st (B := T3.setTop (mkF m 125 #[.val (.long a), .second, .val (.long mk), .second, .val (.long b), .second, .val (.int kk), .val (.int (kk &&& (3 : Int32))), .val (.long (((((kk.toUInt32 >>> ((2 : Int32) &&& 31).toUInt32).toInt32) % (3 : Int32)) - (1 : Int32)).toInt64)), .second, .val (.long pid), .second, .val (.long last), .second, .val (.int (own_ho pid mk last)), .val (.long (pid - mk)), .second, .val (.long (last - mk)), .second, .val (.int (0 : Int32))] [(.int (0 : Int32))])) (fun _ k => XS.iconst X3.here hx rfl (hb hby at_124) k) ?_
          exact (own_no2 hc93 hc103 hc117).elim
      · refine Done.st (B := T3.setTop (mkF m 106 #[.val (.long a), .second, .val (.long mk), .second, .val (.long b), .second, .val (.int kk), .val (.int (kk &&& (3 : Int32))), .val (.long (((((kk.toUInt32 >>> ((2 : Int32) &&& 31).toUInt32).toInt32) % (3 : Int32)) - (1 : Int32)).toInt64)), .second, .val (.long pid), .second, .val (.long last), .second, .val (.int (own_ho pid mk last)), .val (.long (pid - mk)), .second, .val (.long (last - mk)), .second, .unset] [])) (fun _ k => XS.ifNo X3.here hx rfl (hb hby at_103) rfl ((if0 _ _).trans (feq hc103).1) k) ?_
        refine Done.st (B := T3.setTop (mkF m 107 #[.val (.long a), .second, .val (.long mk), .second, .val (.long b), .second, .val (.int kk), .val (.int (kk &&& (3 : Int32))), .val (.long (((((kk.toUInt32 >>> ((2 : Int32) &&& 31).toUInt32).toInt32) % (3 : Int32)) - (1 : Int32)).toInt64)), .second, .val (.long pid), .second, .val (.long last), .second, .val (.int (own_ho pid mk last)), .val (.long (pid - mk)), .second, .val (.long (last - mk)), .second, .unset] [(.int (1 : Int32))])) (fun _ k => XS.iconst X3.here hx rfl (hb hby at_106) k) ?_
        refine Done.st (B := T3.setTop (mkF m 111 #[.val (.long a), .second, .val (.long mk), .second, .val (.long b), .second, .val (.int kk), .val (.int (kk &&& (3 : Int32))), .val (.long (((((kk.toUInt32 >>> ((2 : Int32) &&& 31).toUInt32).toInt32) % (3 : Int32)) - (1 : Int32)).toInt64)), .second, .val (.long pid), .second, .val (.long last), .second, .val (.int (own_ho pid mk last)), .val (.long (pid - mk)), .second, .val (.long (last - mk)), .second, .unset] [(.int (1 : Int32))])) (fun _ k => XS.goto X3.here hx rfl (pc0 := 107) (pc' := 111) rfl (hb hby at_107) (by decide) (by decide) k) ?_
        refine Done.st (B := T3.setTop (mkF m 113 #[.val (.long a), .second, .val (.long mk), .second, .val (.long b), .second, .val (.int kk), .val (.int (kk &&& (3 : Int32))), .val (.long (((((kk.toUInt32 >>> ((2 : Int32) &&& 31).toUInt32).toInt32) % (3 : Int32)) - (1 : Int32)).toInt64)), .second, .val (.long pid), .second, .val (.long last), .second, .val (.int (own_ho pid mk last)), .val (.long (pid - mk)), .second, .val (.long (last - mk)), .second, .val (.int (1 : Int32))] [])) (fun _ k => XS.istore X3.here hx rfl (hb hby at_111) rfl (l' := #[.val (.long a), .second, .val (.long mk), .second, .val (.long b), .second, .val (.int kk), .val (.int (kk &&& (3 : Int32))), .val (.long (((((kk.toUInt32 >>> ((2 : Int32) &&& 31).toUInt32).toInt32) % (3 : Int32)) - (1 : Int32)).toInt64)), .second, .val (.long pid), .second, .val (.long last), .second, .val (.int (own_ho pid mk last)), .val (.long (pid - mk)), .second, .val (.long (last - mk)), .second, .val (.int (1 : Int32))]) rfl k) ?_
        refine Done.st (B := T3.setTop (mkF m 115 #[.val (.long a), .second, .val (.long mk), .second, .val (.long b), .second, .val (.int kk), .val (.int (kk &&& (3 : Int32))), .val (.long (((((kk.toUInt32 >>> ((2 : Int32) &&& 31).toUInt32).toInt32) % (3 : Int32)) - (1 : Int32)).toInt64)), .second, .val (.long pid), .second, .val (.long last), .second, .val (.int (own_ho pid mk last)), .val (.long (pid - mk)), .second, .val (.long (last - mk)), .second, .val (.int (1 : Int32))] [(.int (own_ho pid mk last))])) (fun _ k => XS.iload X3.here hx rfl (hb hby at_113) rfl k) ?_
        refine Done.st (B := T3.setTop (mkF m 117 #[.val (.long a), .second, .val (.long mk), .second, .val (.long b), .second, .val (.int kk), .val (.int (kk &&& (3 : Int32))), .val (.long (((((kk.toUInt32 >>> ((2 : Int32) &&& 31).toUInt32).toInt32) % (3 : Int32)) - (1 : Int32)).toInt64)), .second, .val (.long pid), .second, .val (.long last), .second, .val (.int (own_ho pid mk last)), .val (.long (pid - mk)), .second, .val (.long (last - mk)), .second, .val (.int (1 : Int32))] [(.int (1 : Int32)), (.int (own_ho pid mk last))])) (fun _ k => XS.iload X3.here hx rfl (hb hby at_115) rfl k) ?_
        by_cases hc117 : (own_ho pid mk last) = (1 : Int32)
        · refine Done.st (B := T3.setTop (mkF m 120 #[.val (.long a), .second, .val (.long mk), .second, .val (.long b), .second, .val (.int kk), .val (.int (kk &&& (3 : Int32))), .val (.long (((((kk.toUInt32 >>> ((2 : Int32) &&& 31).toUInt32).toInt32) % (3 : Int32)) - (1 : Int32)).toInt64)), .second, .val (.long pid), .second, .val (.long last), .second, .val (.int (own_ho pid mk last)), .val (.long (pid - mk)), .second, .val (.long (last - mk)), .second, .val (.int (1 : Int32))] [])) (fun _ k => XS.icmpNo X3.here hx rfl (hb hby at_117) rfl (teq hc117).2 k) ?_
          refine Done.st (B := T3.setTop (mkF m 121 #[.val (.long a), .second, .val (.long mk), .second, .val (.long b), .second, .val (.int kk), .val (.int (kk &&& (3 : Int32))), .val (.long (((((kk.toUInt32 >>> ((2 : Int32) &&& 31).toUInt32).toInt32) % (3 : Int32)) - (1 : Int32)).toInt64)), .second, .val (.long pid), .second, .val (.long last), .second, .val (.int (own_ho pid mk last)), .val (.long (pid - mk)), .second, .val (.long (last - mk)), .second, .val (.int (1 : Int32))] [(.int (1 : Int32))])) (fun _ k => XS.iconst X3.here hx rfl (hb hby at_120) k) ?_
          refine Done.st (B := T3.setTop (mkF m 125 #[.val (.long a), .second, .val (.long mk), .second, .val (.long b), .second, .val (.int kk), .val (.int (kk &&& (3 : Int32))), .val (.long (((((kk.toUInt32 >>> ((2 : Int32) &&& 31).toUInt32).toInt32) % (3 : Int32)) - (1 : Int32)).toInt64)), .second, .val (.long pid), .second, .val (.long last), .second, .val (.int (own_ho pid mk last)), .val (.long (pid - mk)), .second, .val (.long (last - mk)), .second, .val (.int (1 : Int32))] [(.int (1 : Int32))])) (fun _ k => XS.goto X3.here hx rfl (pc0 := 121) (pc' := 125) rfl (hb hby at_121) (by decide) (by decide) k) ?_
          obtain ⟨fs, hr, hrun, hended, hW, hsame⟩ := X3.leave (v := some (.int (1 : Int32))) (hlocks := hlk) (fun h => by rw [Bd.returns] at h; cases h)
          refine Done.fin (retN X3 hx (t := .boolean) Bd.returns (by simp) (hb hby at_125) hr) hrun hended ⟨_, _, rfl, ?_, ⟨_, rfl⟩, hW, hsame.mono (by decide) (by decide)⟩
          show Qrm0 Z a mk b kk h0 n0 _ T3.heap _
          rw [e3]
          exact ⟨rfl, N3⟩
        · refine Done.st (B := T3.setTop (mkF m 124 #[.val (.long a), .second, .val (.long mk), .second, .val (.long b), .second, .val (.int kk), .val (.int (kk &&& (3 : Int32))), .val (.long (((((kk.toUInt32 >>> ((2 : Int32) &&& 31).toUInt32).toInt32) % (3 : Int32)) - (1 : Int32)).toInt64)), .second, .val (.long pid), .second, .val (.long last), .second, .val (.int (own_ho pid mk last)), .val (.long (pid - mk)), .second, .val (.long (last - mk)), .second, .val (.int (1 : Int32))] [])) (fun _ k => XS.icmpYes X3.here hx rfl (pc0 := 117) (pc' := 124) rfl (hb hby at_117) rfl (feq hc117).2 (by decide) (by decide) k) ?_
          refine Done.st (B := T3.setTop (mkF m 125 #[.val (.long a), .second, .val (.long mk), .second, .val (.long b), .second, .val (.int kk), .val (.int (kk &&& (3 : Int32))), .val (.long (((((kk.toUInt32 >>> ((2 : Int32) &&& 31).toUInt32).toInt32) % (3 : Int32)) - (1 : Int32)).toInt64)), .second, .val (.long pid), .second, .val (.long last), .second, .val (.int (own_ho pid mk last)), .val (.long (pid - mk)), .second, .val (.long (last - mk)), .second, .val (.int (1 : Int32))] [(.int (0 : Int32))])) (fun _ k => XS.iconst X3.here hx rfl (hb hby at_124) k) ?_
          exact (own_no3 hc93 hc103 hc117).elim
  refine Done.st (B := s₁.setTop (mkF m 26 #[.val (.long a), .second, .val (.long mk), .second, .val (.long b), .second, .val (.int kk), .val (.int (kk &&& (3 : Int32))), .val (.long (((((kk.toUInt32 >>> ((2 : Int32) &&& 31).toUInt32).toInt32) % (3 : Int32)) - (1 : Int32)).toInt64)), .second, .val (.long a), .second, .val (.long b), .second, .unset, .unset, .unset, .unset, .unset, .unset] [(.int (kk &&& (3 : Int32)))])) (fun _ k => XS.iload X0.here hx rfl (hb hby at_24) rfl k) ?_
  refine Done.st (B := s₁.setTop (mkF m 27 #[.val (.long a), .second, .val (.long mk), .second, .val (.long b), .second, .val (.int kk), .val (.int (kk &&& (3 : Int32))), .val (.long (((((kk.toUInt32 >>> ((2 : Int32) &&& 31).toUInt32).toInt32) % (3 : Int32)) - (1 : Int32)).toInt64)), .second, .val (.long a), .second, .val (.long b), .second, .unset, .unset, .unset, .unset, .unset, .unset] [(.int (1 : Int32)), (.int (kk &&& (3 : Int32)))])) (fun _ k => XS.iconst X0.here hx rfl (hb hby at_26) k) ?_
  by_cases hc27 : (kk &&& (3 : Int32)) = (1 : Int32)
  · refine Done.st (B := s₁.setTop (mkF m 30 #[.val (.long a), .second, .val (.long mk), .second, .val (.long b), .second, .val (.int kk), .val (.int (kk &&& (3 : Int32))), .val (.long (((((kk.toUInt32 >>> ((2 : Int32) &&& 31).toUInt32).toInt32) % (3 : Int32)) - (1 : Int32)).toInt64)), .second, .val (.long a), .second, .val (.long b), .second, .unset, .unset, .unset, .unset, .unset, .unset] [])) (fun _ k => XS.icmpNo X0.here hx rfl (hb hby at_27) rfl (teq hc27).2 k) ?_
    refine Done.st (B := s₁.setTop (mkF m 31 #[.val (.long a), .second, .val (.long mk), .second, .val (.long b), .second, .val (.int kk), .val (.int (kk &&& (3 : Int32))), .val (.long (((((kk.toUInt32 >>> ((2 : Int32) &&& 31).toUInt32).toInt32) % (3 : Int32)) - (1 : Int32)).toInt64)), .second, .val (.long a), .second, .val (.long b), .second, .unset, .unset, .unset, .unset, .unset, .unset] [(.long mk)])) (fun _ k => XS.lloadN X0.here hx rfl (hb hby at_30) rfl k) ?_
    refine Done.st (B := s₁.setTop (mkF m 33 #[.val (.long a), .second, .val (.long mk), .second, .val (.long b), .second, .val (.int kk), .val (.int (kk &&& (3 : Int32))), .val (.long (((((kk.toUInt32 >>> ((2 : Int32) &&& 31).toUInt32).toInt32) % (3 : Int32)) - (1 : Int32)).toInt64)), .second, .val (.long a), .second, .val (.long b), .second, .unset, .unset, .unset, .unset, .unset, .unset] [(.long (((((kk.toUInt32 >>> ((2 : Int32) &&& 31).toUInt32).toInt32) % (3 : Int32)) - (1 : Int32)).toInt64)), (.long mk)])) (fun _ k => XS.lload X0.here hx rfl (hb hby at_31) rfl k) ?_
    refine Done.st (B := s₁.setTop (mkF m 34 #[.val (.long a), .second, .val (.long mk), .second, .val (.long b), .second, .val (.int kk), .val (.int (kk &&& (3 : Int32))), .val (.long (((((kk.toUInt32 >>> ((2 : Int32) &&& 31).toUInt32).toInt32) % (3 : Int32)) - (1 : Int32)).toInt64)), .second, .val (.long a), .second, .val (.long b), .second, .unset, .unset, .unset, .unset, .unset, .unset] [(.long (mk + (((((kk.toUInt32 >>> ((2 : Int32) &&& 31).toUInt32).toInt32) % (3 : Int32)) - (1 : Int32)).toInt64)))])) (fun _ k => XS.ladd X0.here hx rfl (hb hby at_33) rfl k) ?_
    refine Done.st (B := s₁.setTop (mkF m 36 #[.val (.long a), .second, .val (.long mk), .second, .val (.long b), .second, .val (.int kk), .val (.int (kk &&& (3 : Int32))), .val (.long (((((kk.toUInt32 >>> ((2 : Int32) &&& 31).toUInt32).toInt32) % (3 : Int32)) - (1 : Int32)).toInt64)), .second, .val (.long (mk + (((((kk.toUInt32 >>> ((2 : Int32) &&& 31).toUInt32).toInt32) % (3 : Int32)) - (1 : Int32)).toInt64))), .second, .val (.long b), .second, .unset, .unset, .unset, .unset, .unset, .unset] [])) (fun _ k => XS.lstore X0.here hx rfl (hb hby at_34) rfl (l' := #[.val (.long a), .second, .val (.long mk), .second, .val (.long b), .second, .val (.int kk), .val (.int (kk &&& (3 : Int32))), .val (.long (((((kk.toUInt32 >>> ((2 : Int32) &&& 31).toUInt32).toInt32) % (3 : Int32)) - (1 : Int32)).toInt64)), .second, .val (.long (mk + (((((kk.toUInt32 >>> ((2 : Int32) &&& 31).toUInt32).toInt32) % (3 : Int32)) - (1 : Int32)).toInt64))), .second, .val (.long b), .second, .unset, .unset, .unset, .unset, .unset, .unset]) rfl k) ?_
    refine Done.st (B := s₁.setTop (mkF m 67 #[.val (.long a), .second, .val (.long mk), .second, .val (.long b), .second, .val (.int kk), .val (.int (kk &&& (3 : Int32))), .val (.long (((((kk.toUInt32 >>> ((2 : Int32) &&& 31).toUInt32).toInt32) % (3 : Int32)) - (1 : Int32)).toInt64)), .second, .val (.long (mk + (((((kk.toUInt32 >>> ((2 : Int32) &&& 31).toUInt32).toInt32) % (3 : Int32)) - (1 : Int32)).toInt64))), .second, .val (.long b), .second, .unset, .unset, .unset, .unset, .unset, .unset] [])) (fun _ k => XS.goto X0.here hx rfl (pc0 := 36) (pc' := 67) rfl (hb hby at_36) (by decide) (by decide) k) ?_
    exact j67 (mk + (((((kk.toUInt32 >>> ((2 : Int32) &&& 31).toUInt32).toInt32) % (3 : Int32)) - (1 : Int32)).toInt64)) b 
  · refine Done.st (B := s₁.setTop (mkF m 39 #[.val (.long a), .second, .val (.long mk), .second, .val (.long b), .second, .val (.int kk), .val (.int (kk &&& (3 : Int32))), .val (.long (((((kk.toUInt32 >>> ((2 : Int32) &&& 31).toUInt32).toInt32) % (3 : Int32)) - (1 : Int32)).toInt64)), .second, .val (.long a), .second, .val (.long b), .second, .unset, .unset, .unset, .unset, .unset, .unset] [])) (fun _ k => XS.icmpYes X0.here hx rfl (pc0 := 27) (pc' := 39) rfl (hb hby at_27) rfl (feq hc27).2 (by decide) (by decide) k) ?_
    refine Done.st (B := s₁.setTop (mkF m 41 #[.val (.long a), .second, .val (.long mk), .second, .val (.long b), .second, .val (.int kk), .val (.int (kk &&& (3 : Int32))), .val (.long (((((kk.toUInt32 >>> ((2 : Int32) &&& 31).toUInt32).toInt32) % (3 : Int32)) - (1 : Int32)).toInt64)), .second, .val (.long a), .second, .val (.long b), .second, .unset, .unset, .unset, .unset, .unset, .unset] [(.int (kk &&& (3 : Int32)))])) (fun _ k => XS.iload X0.here hx rfl (hb hby at_39) rfl k) ?_
    refine Done.st (B := s₁.setTop (mkF m 42 #[.val (.long a), .second, .val (.long mk), .second, .val (.long b), .second, .val (.int kk), .val (.int (kk &&& (3 : Int32))), .val (.long (((((kk.toUInt32 >>> ((2 : Int32) &&& 31).toUInt32).toInt32) % (3 : Int32)) - (1 : Int32)).toInt64)), .second, .val (.long a), .second, .val (.long b), .second, .unset, .unset, .unset, .unset, .unset, .unset] [(.int (2 : Int32)), (.int (kk &&& (3 : Int32)))])) (fun _ k => XS.iconst X0.here hx rfl (hb hby at_41) k) ?_
    by_cases hc42 : (kk &&& (3 : Int32)) = (2 : Int32)
    · refine Done.st (B := s₁.setTop (mkF m 45 #[.val (.long a), .second, .val (.long mk), .second, .val (.long b), .second, .val (.int kk), .val (.int (kk &&& (3 : Int32))), .val (.long (((((kk.toUInt32 >>> ((2 : Int32) &&& 31).toUInt32).toInt32) % (3 : Int32)) - (1 : Int32)).toInt64)), .second, .val (.long a), .second, .val (.long b), .second, .unset, .unset, .unset, .unset, .unset, .unset] [])) (fun _ k => XS.icmpNo X0.here hx rfl (hb hby at_42) rfl (teq hc42).2 k) ?_
      refine Done.st (B := s₁.setTop (mkF m 47 #[.val (.long a), .second, .val (.long mk), .second, .val (.long b), .second, .val (.int kk), .val (.int (kk &&& (3 : Int32))), .val (.long (((((kk.toUInt32 >>> ((2 : Int32) &&& 31).toUInt32).toInt32) % (3 : Int32)) - (1 : Int32)).toInt64)), .second, .val (.long a), .second, .val (.long b), .second, .unset, .unset, .unset, .unset, .unset, .unset] [(.long b)])) (fun _ k => XS.lload X0.here hx rfl (hb hby at_45) rfl k) ?_
      refine Done.st (B := s₁.setTop (mkF m 49 #[.val (.long a), .second, .val (.long mk), .second, .val (.long b), .second, .val (.int kk), .val (.int (kk &&& (3 : Int32))), .val (.long (((((kk.toUInt32 >>> ((2 : Int32) &&& 31).toUInt32).toInt32) % (3 : Int32)) - (1 : Int32)).toInt64)), .second, .val (.long a), .second, .val (.long b), .second, .unset, .unset, .unset, .unset, .unset, .unset] [(.long (((((kk.toUInt32 >>> ((2 : Int32) &&& 31).toUInt32).toInt32) % (3 : Int32)) - (1 : Int32)).toInt64)), (.long b)])) (fun _ k => XS.lload X0.here hx rfl (hb hby at_47) rfl k) ?_
      refine Done.st (B := s₁.setTop (mkF m 50 #[.val (.long a), .second, .val (.long mk), .second, .val (.long b), .second, .val (.int kk), .val (.int (kk &&& (3 : Int32))), .val (.long (((((kk.toUInt32 >>> ((2 : Int32) &&& 31).toUInt32).toInt32) % (3 : Int32)) - (1 : Int32)).toInt64)), .second, .val (.long a), .second, .val (.long b), .second, .unset, .unset, .unset, .unset, .unset, .unset] [(.long (b + (((((kk.toUInt32 >>> ((2 : Int32) &&& 31).toUInt32).toInt32) % (3 : Int32)) - (1 : Int32)).toInt64)))])) (fun _ k => XS.ladd X0.here hx rfl (hb hby at_49) rfl k) ?_
      refine Done.st (B := s₁.setTop (mkF m 52 #[.val (.long a), .second, .val (.long mk), .second, .val (.long b), .second, .val (.int kk), .val (.int (kk &&& (3 : Int32))), .val (.long (((((kk.toUInt32 >>> ((2 : Int32) &&& 31).toUInt32).toInt32) % (3 : Int32)) - (1 : Int32)).toInt64)), .second, .val (.long (b + (((((kk.toUInt32 >>> ((2 : Int32) &&& 31).toUInt32).toInt32) % (3 : Int32)) - (1 : Int32)).toInt64))), .second, .val (.long b), .second, .unset, .unset, .unset, .unset, .unset, .unset] [])) (fun _ k => XS.lstore X0.here hx rfl (hb hby at_50) rfl (l' := #[.val (.long a), .second, .val (.long mk), .second, .val (.long b), .second, .val (.int kk), .val (.int (kk &&& (3 : Int32))), .val (.long (((((kk.toUInt32 >>> ((2 : Int32) &&& 31).toUInt32).toInt32) % (3 : Int32)) - (1 : Int32)).toInt64)), .second, .val (.long (b + (((((kk.toUInt32 >>> ((2 : Int32) &&& 31).toUInt32).toInt32) % (3 : Int32)) - (1 : Int32)).toInt64))), .second, .val (.long b), .second, .unset, .unset, .unset, .unset, .unset, .unset]) rfl k) ?_
      refine Done.st (B := s₁.setTop (mkF m 67 #[.val (.long a), .second, .val (.long mk), .second, .val (.long b), .second, .val (.int kk), .val (.int (kk &&& (3 : Int32))), .val (.long (((((kk.toUInt32 >>> ((2 : Int32) &&& 31).toUInt32).toInt32) % (3 : Int32)) - (1 : Int32)).toInt64)), .second, .val (.long (b + (((((kk.toUInt32 >>> ((2 : Int32) &&& 31).toUInt32).toInt32) % (3 : Int32)) - (1 : Int32)).toInt64))), .second, .val (.long b), .second, .unset, .unset, .unset, .unset, .unset, .unset] [])) (fun _ k => XS.goto X0.here hx rfl (pc0 := 52) (pc' := 67) rfl (hb hby at_52) (by decide) (by decide) k) ?_
      exact j67 (b + (((((kk.toUInt32 >>> ((2 : Int32) &&& 31).toUInt32).toInt32) % (3 : Int32)) - (1 : Int32)).toInt64)) b 
    · refine Done.st (B := s₁.setTop (mkF m 55 #[.val (.long a), .second, .val (.long mk), .second, .val (.long b), .second, .val (.int kk), .val (.int (kk &&& (3 : Int32))), .val (.long (((((kk.toUInt32 >>> ((2 : Int32) &&& 31).toUInt32).toInt32) % (3 : Int32)) - (1 : Int32)).toInt64)), .second, .val (.long a), .second, .val (.long b), .second, .unset, .unset, .unset, .unset, .unset, .unset] [])) (fun _ k => XS.icmpYes X0.here hx rfl (pc0 := 42) (pc' := 55) rfl (hb hby at_42) rfl (feq hc42).2 (by decide) (by decide) k) ?_
      refine Done.st (B := s₁.setTop (mkF m 57 #[.val (.long a), .second, .val (.long mk), .second, .val (.long b), .second, .val (.int kk), .val (.int (kk &&& (3 : Int32))), .val (.long (((((kk.toUInt32 >>> ((2 : Int32) &&& 31).toUInt32).toInt32) % (3 : Int32)) - (1 : Int32)).toInt64)), .second, .val (.long a), .second, .val (.long b), .second, .unset, .unset, .unset, .unset, .unset, .unset] [(.int (kk &&& (3 : Int32)))])) (fun _ k => XS.iload X0.here hx rfl (hb hby at_55) rfl k) ?_
      refine Done.st (B := s₁.setTop (mkF m 58 #[.val (.long a), .second, .val (.long mk), .second, .val (.long b), .second, .val (.int kk), .val (.int (kk &&& (3 : Int32))), .val (.long (((((kk.toUInt32 >>> ((2 : Int32) &&& 31).toUInt32).toInt32) % (3 : Int32)) - (1 : Int32)).toInt64)), .second, .val (.long a), .second, .val (.long b), .second, .unset, .unset, .unset, .unset, .unset, .unset] [(.int (3 : Int32)), (.int (kk &&& (3 : Int32)))])) (fun _ k => XS.iconst X0.here hx rfl (hb hby at_57) k) ?_
      by_cases hc58 : (kk &&& (3 : Int32)) = (3 : Int32)
      · refine Done.st (B := s₁.setTop (mkF m 61 #[.val (.long a), .second, .val (.long mk), .second, .val (.long b), .second, .val (.int kk), .val (.int (kk &&& (3 : Int32))), .val (.long (((((kk.toUInt32 >>> ((2 : Int32) &&& 31).toUInt32).toInt32) % (3 : Int32)) - (1 : Int32)).toInt64)), .second, .val (.long a), .second, .val (.long b), .second, .unset, .unset, .unset, .unset, .unset, .unset] [])) (fun _ k => XS.icmpNo X0.here hx rfl (hb hby at_58) rfl (teq hc58).2 k) ?_
        refine Done.st (B := s₁.setTop (mkF m 62 #[.val (.long a), .second, .val (.long mk), .second, .val (.long b), .second, .val (.int kk), .val (.int (kk &&& (3 : Int32))), .val (.long (((((kk.toUInt32 >>> ((2 : Int32) &&& 31).toUInt32).toInt32) % (3 : Int32)) - (1 : Int32)).toInt64)), .second, .val (.long a), .second, .val (.long b), .second, .unset, .unset, .unset, .unset, .unset, .unset] [(.long mk)])) (fun _ k => XS.lloadN X0.here hx rfl (hb hby at_61) rfl k) ?_
        refine Done.st (B := s₁.setTop (mkF m 64 #[.val (.long a), .second, .val (.long mk), .second, .val (.long b), .second, .val (.int kk), .val (.int (kk &&& (3 : Int32))), .val (.long (((((kk.toUInt32 >>> ((2 : Int32) &&& 31).toUInt32).toInt32) % (3 : Int32)) - (1 : Int32)).toInt64)), .second, .val (.long a), .second, .val (.long b), .second, .unset, .unset, .unset, .unset, .unset, .unset] [(.long (((((kk.toUInt32 >>> ((2 : Int32) &&& 31).toUInt32).toInt32) % (3 : Int32)) - (1 : Int32)).toInt64)), (.long mk)])) (fun _ k => XS.lload X0.here hx rfl (hb hby at_62) rfl k) ?_
        refine Done.st (B := s₁.setTop (mkF m 65 #[.val (.long a), .second, .val (.long mk), .second, .val (.long b), .second, .val (.int kk), .val (.int (kk &&& (3 : Int32))), .val (.long (((((kk.toUInt32 >>> ((2 : Int32) &&& 31).toUInt32).toInt32) % (3 : Int32)) - (1 : Int32)).toInt64)), .second, .val (.long a), .second, .val (.long b), .second, .unset, .unset, .unset, .unset, .unset, .unset] [(.long (mk + (((((kk.toUInt32 >>> ((2 : Int32) &&& 31).toUInt32).toInt32) % (3 : Int32)) - (1 : Int32)).toInt64)))])) (fun _ k => XS.ladd X0.here hx rfl (hb hby at_64) rfl k) ?_
        refine Done.st (B := s₁.setTop (mkF m 67 #[.val (.long a), .second, .val (.long mk), .second, .val (.long b), .second, .val (.int kk), .val (.int (kk &&& (3 : Int32))), .val (.long (((((kk.toUInt32 >>> ((2 : Int32) &&& 31).toUInt32).toInt32) % (3 : Int32)) - (1 : Int32)).toInt64)), .second, .val (.long a), .second, .val (.long (mk + (((((kk.toUInt32 >>> ((2 : Int32) &&& 31).toUInt32).toInt32) % (3 : Int32)) - (1 : Int32)).toInt64))), .second, .unset, .unset, .unset, .unset, .unset, .unset] [])) (fun _ k => XS.lstore X0.here hx rfl (hb hby at_65) rfl (l' := #[.val (.long a), .second, .val (.long mk), .second, .val (.long b), .second, .val (.int kk), .val (.int (kk &&& (3 : Int32))), .val (.long (((((kk.toUInt32 >>> ((2 : Int32) &&& 31).toUInt32).toInt32) % (3 : Int32)) - (1 : Int32)).toInt64)), .second, .val (.long a), .second, .val (.long (mk + (((((kk.toUInt32 >>> ((2 : Int32) &&& 31).toUInt32).toInt32) % (3 : Int32)) - (1 : Int32)).toInt64))), .second, .unset, .unset, .unset, .unset, .unset, .unset]) rfl k) ?_
        exact j67 a (mk + (((((kk.toUInt32 >>> ((2 : Int32) &&& 31).toUInt32).toInt32) % (3 : Int32)) - (1 : Int32)).toInt64)) 
      · refine Done.st (B := s₁.setTop (mkF m 67 #[.val (.long a), .second, .val (.long mk), .second, .val (.long b), .second, .val (.int kk), .val (.int (kk &&& (3 : Int32))), .val (.long (((((kk.toUInt32 >>> ((2 : Int32) &&& 31).toUInt32).toInt32) % (3 : Int32)) - (1 : Int32)).toInt64)), .second, .val (.long a), .second, .val (.long b), .second, .unset, .unset, .unset, .unset, .unset, .unset] [])) (fun _ k => XS.icmpYes X0.here hx rfl (pc0 := 58) (pc' := 67) rfl (hb hby at_58) rfl (feq hc58).2 (by decide) (by decide) k) ?_
        exact j67 a b 
set_option maxRecDepth 65536 in
set_option maxHeartbeats 40000000 in
theorem comes_1 {Post : Tables → Env → Array Value → State → Outcome → State → Prop} (hpost : ∀ tb e args s v u, (limb_1_1.after args s (.returned v) u = true ∧ limb_1_2.after args s (.returned v) u = true ∧ True) → FrameEnd s (.returned v) u (Jvm.fieldLocs frame_1_writes args s ++ Jvm.arrayLocs frame_1_arrays args s ++ Jvm.staticLocs frame_1_statics s) 0 0 → Post tb e args s (.returned v) u) :
    ArmFor flags0 classFile x code maxLocals ret World_1 tables_1 room_1 Calls_1 rest_1 Pre_1 Post := by
  intro l hfl _ _ p e ha hc hk s m args below hf hA hF happ hP
  obtain ⟨hcalls, hrest, hpre⟩ := hP
  obtain ⟨-, -, -, hnamed, -, -, -, hat⟩ := (Spec.applies_iff hf).mp happ
  obtain ⟨hg, hn⟩ := and_e (Cond.before_iff.mp (show (Jvm.Cond.and given_1 narrow_1).before args s = true from hpre))
  obtain ⟨g1, g2⟩ := and_e hg
  obtain ⟨g3, g4⟩ := and_e g2
  obtain ⟨g5, g6⟩ := and_e g4
  obtain ⟨g7, g8⟩ := and_e g6
  obtain ⟨w0, w1, w2, w3, rfl⟩ : ∃ w0 w1 w2 w3 : Value, args = #[w0, w1, w2, w3] := by
    have hs : args.size = 4 := by simpa [Cond.value, given_1] using g1
    obtain ⟨L⟩ := args
    match L, hs with
    | [w0, w1, w2, w3], _ => exact ⟨w0, w1, w2, w3, rfl⟩
  have hw := fun d (hd : d ∈ tables_1) => atoms_spec (ws := Jvm.Cond.code x code maxLocals ret :: tables_1) hat d (List.mem_cons_of_mem _ hd)
  have hfit : Fit s := fun {y c} hc i hi => by
    obtain ⟨ha, rfl⟩ := Array.getElem?_eq_some_iff.mp hc
    have q := List.all_eq_true.mp ((Array.all_eq_true_iff_forall_mem.mp hF) _ (Array.getElem_mem ha)) i (List.mem_range.mpr hi)
    simpa [Array.getElem?_eq_getElem hi] using q
  obtain ⟨i0, ei0⟩ := isL_v g3
  obtain rfl : w0 = (.long i0) := Option.some.inj ei0
  obtain ⟨i1, ei1⟩ := isL_v g5
  obtain rfl : w1 = (.long i1) := Option.some.inj ei1
  obtain ⟨i2, ei2⟩ := isL_v g7
  obtain rfl : w2 = (.long i2) := Option.some.inj ei2
  obtain ⟨i3, ei3⟩ := is_v g8
  obtain rfl : w3 = (.int i3) := Option.some.inj ei3
  obtain ⟨n, o, h1, h2, h3, _, L, rfl, ⟨rfl, N⟩, hq⟩ := rm0 l s _ hw tables_1 i0 i1 i2 i3 s.heap s.heap.size (Nat.le_refl _)  p e ha hc hk s m _ below hf ((Spec.applies_iff_loose hf).mp happ).1 ⟨rfl, State.Warmed39.refl s, rfl⟩ trivial
  refine ⟨n, _, h1, h2, h3, hpost _ _ _ _ _ _ ⟨Cond.after_iff.mpr rfl, Cond.after_iff.mpr (eq_i res_at (Term.int_eval (1)) rfl), trivial⟩ ⟨hq.1, hq.2.1, (hq.2.2.sift fun y hy => Or.inr (N y hy)).mono (by decide) (by decide)⟩⟩
theorem main_1_1 : Claimed_1_1 := comes_1 fun _ _ _ _ _ _ h hF => ⟨h.1, hF⟩
theorem main_1_2 : Claimed_1_2 := comes_1 fun _ _ _ _ _ _ h hF => ⟨h.2.1, hF⟩
end Jvm.Pilot.@@N@@
namespace Jvm.Pilot.@@N@@
open Jvm Jvm.ClassFile Sem Op Lib Jvm.Free Jvm.Stand Jvm.Pilot.@@N@@.Jvm.D
/-! MADE BY PROGRAM (witnessworld.py) out of the Statement's table words and the real class files: 9 classes; the members and pool entries that the words name. The judged class is class 1, her method 1. -/
namespace start1
open Jvm.ClassFile
def u (s : String) : CpInfo := .utf8 (stringToUtf16 s)
/-- a pool by its gaps: so many unusable entries, then the entry; so many at the end -/
def gap : Nat → List CpInfo → List CpInfo
  | 0, r => r
  | n + 1, r => .unusable :: gap n r
def poolList (es : List (Nat × CpInfo)) (last : Nat) : List CpInfo := es.foldr (fun e r => gap e.1 (e.2 :: r)) (gap last [])
def pool (es : List (Nat × CpInfo)) (last : Nat) : Array CpInfo := ⟨poolList es last⟩
def fileOf (pool : Array CpInfo) (this : Nat) (attrs : Array Attribute := #[]) (ms : Array MethodInfo := #[]) (fl : Nat := 33) (sup : Nat := 0) (ifs : Array Nat := #[]) (fds : Array FieldInfo := #[]) : ClassFile where
  minorVersion := 0
  majorVersion := 65
  constantPool := pool
  accessFlags := fl
  thisClass := this
  superClass := sup
  interfaces := ifs
  fields := fds
  methods := ms
  attributes := attrs
def plain (name : String) (sup : Option ClassId) : Class where
  name := name
  kind := .ordinary
  loader := none
  accessFlags := 33
  super := sup
  interfaces := #[]
  cf := none
  fields := #[]
  methods := #[]
  instanceTypes := #[]
  staticTypes := #[]
  resolved := #[]
  callSites := []
  init := .initialized
  statics := none
  mirror := none

def pool0 : Array CpInfo := pool [(5, u "<init>"), (0, u "()V"), (1, .class_ 10), (1, u "java/lang/Object")] 113

def k0m0 : Method := { name := "<init>", desc := "()V", sig := { parameters := [], returnType := none }, accessFlags := 1, code := none }
/-- java/lang/Object -/
def k0 : Class := { plain "java/lang/Object" none with
  accessFlags := 33
  interfaces := #[]
  cf := some (fileOf pool0 8 #[] #[{ accessFlags := 1, nameIndex := 5, descriptorIndex := 6, attributes := #[] }] 33 0 #[] #[])
  fields := #[]
  methods := #[k0m0]
  instanceTypes := #[]
  staticTypes := #[]
  resolved := Array.replicate 124 none
  statics := none }

def pool1 : Array CpInfo := pool [(2, .class_ 4), (1, u "java/lang/Object"), (0, u "<init>"), (0, u "()V"), (0, .methodref 8 9), (0, .class_ 10), (0, .nameAndType 11 12), (0, u "hasp/cli/ProcessTree"), (0, u "handedOutAfter"), (0, u "(JJJ)Z"), (0, .methodref 14 15), (0, .class_ 16), (0, .nameAndType 17 18), (0, u "hasp/cli/ProcessTreeHandedOutAfterPinLaw"), (0, u "unsignedAtMost"), (0, u "(JJ)Z"), (2, .long 9223372036854775808), (3, u "law"), (0, u "(JJJI)Z")] 3

def k1m0 : Method := { name := "<init>", desc := "()V", sig := { parameters := [], returnType := none }, accessFlags := 1, code := none }
def k1c1 : Code := { maxStack := 6, maxLocals := 20, code := code, exceptionTable := #[], attributes := #[] }
def k1m1 : Method := { name := "law", desc := "(JJJI)Z", sig := { parameters := [.long, .long, .long, .int], returnType := some .boolean }, accessFlags := 9, code := some k1c1 }
def k1c2 : Code := { maxStack := 6, maxLocals := 4, code := method_3_code, exceptionTable := #[], attributes := #[] }
def k1m2 : Method := { name := "unsignedAtMost", desc := "(JJ)Z", sig := { parameters := [.long, .long], returnType := some .boolean }, accessFlags := 10, code := some k1c2 }
/-- hasp/cli/ProcessTreeHandedOutAfterPinLaw -/
def k1 : Class := { plain "hasp/cli/ProcessTreeHandedOutAfterPinLaw" (some 0) with
  accessFlags := 49
  interfaces := #[]
  cf := some (fileOf pool1 14 #[] #[{ accessFlags := 1, nameIndex := 5, descriptorIndex := 6, attributes := #[] }, { accessFlags := 9, nameIndex := 25, descriptorIndex := 26, attributes := #[] }, { accessFlags := 10, nameIndex := 17, descriptorIndex := 18, attributes := #[] }] 49 2 #[] #[])
  fields := #[]
  methods := #[k1m0, k1m1, k1m2]
  instanceTypes := #[]
  staticTypes := #[]
  resolved := Array.replicate 30 none
  statics := none }

def pool2 : Array CpInfo := pool [(2, .class_ 4), (1, u "hasp/cli/ProcessTree"), (3, .class_ 10), (1, u "java/lang/Object"), (6, u "processes"), (0, u "Ljava/util/Map;"), (5, u "notes"), (0, u "Ljava/util/List;"), (0, .class_ 27), (0, u "hasp/cli/ProcessTree$Pace"), (3, u "pace"), (0, u "Lhasp/cli/ProcessTree$Pace;"), (2, u "command"), (0, u "Ljava/lang/ProcessHandle;"), (2, u "subreaper"), (0, u "Lhasp/cli/Subreaper;"), (2, u "outside"), (15, .class_ 61), (1, u "hasp/cli/ProcessTree$Look"), (43, u "looksEnded"), (0, u "J"), (67, .class_ 176), (1, u "hasp/cli/ProcessTree$Note"), (18, u "handedOutAfter"), (0, u "(JJJ)Z"), (219, u "LOOK_MILLIS"), (1, u "SIGNAL_LAG_MILLIS"), (0, u "EXITING"), (0, u "STOPPING")] 59

def k2c0 : Code := { maxStack := 4, maxLocals := 6, code := prog_36_method_25_code, exceptionTable := #[], attributes := #[] }
def k2m0 : Method := { name := "handedOutAfter", desc := "(JJJ)Z", sig := { parameters := [.long, .long, .long], returnType := some .boolean }, accessFlags := 8, code := some k2c0 }
/-- hasp/cli/ProcessTree -/
def k2 : Class := { plain "hasp/cli/ProcessTree" (some 0) with
  accessFlags := 48
  interfaces := #[]
  cf := some (fileOf pool2 2 #[.nestMembers #[26, 59, 174]] #[{ accessFlags := 8, nameIndex := 195, descriptorIndex := 196, attributes := #[] }] 48 8 #[] #[{ accessFlags := 24, nameIndex := 416, descriptorIndex := 106, attributes := #[] }, { accessFlags := 24, nameIndex := 418, descriptorIndex := 106, attributes := #[] }, { accessFlags := 26, nameIndex := 419, descriptorIndex := 106, attributes := #[] }, { accessFlags := 26, nameIndex := 420, descriptorIndex := 106, attributes := #[] }, { accessFlags := 18, nameIndex := 35, descriptorIndex := 36, attributes := #[] }, { accessFlags := 18, nameIndex := 39, descriptorIndex := 40, attributes := #[] }, { accessFlags := 18, nameIndex := 43, descriptorIndex := 36, attributes := #[] }, { accessFlags := 18, nameIndex := 17, descriptorIndex := 18, attributes := #[] }, { accessFlags := 18, nameIndex := 24, descriptorIndex := 25, attributes := #[] }, { accessFlags := 18, nameIndex := 31, descriptorIndex := 32, attributes := #[] }, { accessFlags := 2, nameIndex := 105, descriptorIndex := 106, attributes := #[] }])
  fields := #[{ name := "LOOK_MILLIS", type := .long, accessFlags := 24, slot := 0, constantValue := 0 }, { name := "SIGNAL_LAG_MILLIS", type := .long, accessFlags := 24, slot := 1, constantValue := 0 }, { name := "EXITING", type := .long, accessFlags := 26, slot := 2, constantValue := 0 }, { name := "STOPPING", type := .long, accessFlags := 26, slot := 3, constantValue := 0 }, { name := "command", type := (.object "java/lang/ProcessHandle"), accessFlags := 18, slot := 0, constantValue := 0 }, { name := "subreaper", type := (.object "hasp/cli/Subreaper"), accessFlags := 18, slot := 1, constantValue := 0 }, { name := "outside", type := (.object "java/lang/ProcessHandle"), accessFlags := 18, slot := 2, constantValue := 0 }, { name := "processes", type := (.object "java/util/Map"), accessFlags := 18, slot := 3, constantValue := 0 }, { name := "notes", type := (.object "java/util/List"), accessFlags := 18, slot := 4, constantValue := 0 }, { name := "pace", type := (.object "hasp/cli/ProcessTree$Pace"), accessFlags := 18, slot := 5, constantValue := 0 }, { name := "looksEnded", type := .long, accessFlags := 2, slot := 6, constantValue := 0 }]
  methods := #[k2m0]
  instanceTypes := #[(.object "java/lang/ProcessHandle"), (.object "hasp/cli/Subreaper"), (.object "java/lang/ProcessHandle"), (.object "java/util/Map"), (.object "java/util/List"), (.object "hasp/cli/ProcessTree$Pace"), .long]
  staticTypes := #[.long, .long, .long, .long]
  resolved := Array.replicate 480 none
  statics := none }

def pool3 : Array CpInfo := pool [(1, u "java/lang/Cloneable"), (0, .class_ 1), (0, u "java/lang/Object"), (0, .class_ 3)] 3

/-- java/lang/Cloneable -/
def k3 : Class := { plain "java/lang/Cloneable" (some 0) with
  accessFlags := 1537
  interfaces := #[]
  cf := some (fileOf pool3 2 #[] #[] 1537 4 #[] #[])
  fields := #[]
  methods := #[]
  instanceTypes := #[]
  staticTypes := #[]
  resolved := Array.replicate 8 none
  statics := none }

def pool4 : Array CpInfo := pool [(1, u "java/io/Serializable"), (0, .class_ 1), (0, u "java/lang/Object"), (0, .class_ 3)] 3

/-- java/io/Serializable -/
def k4 : Class := { plain "java/io/Serializable" (some 0) with
  accessFlags := 1537
  interfaces := #[]
  cf := some (fileOf pool4 2 #[] #[] 1537 4 #[] #[])
  fields := #[]
  methods := #[]
  instanceTypes := #[]
  staticTypes := #[]
  resolved := Array.replicate 8 none
  statics := none }

/-- the primitive byte -/
def k5 : Class := { plain "byte" none with kind := .primitive 'B', accessFlags := 0x411 }
/-- [B -/
def k6 : Class := { plain "[B" (some 0) with kind := .array 5 .byte, interfaces := #[3, 4], accessFlags := 1041 }

/-- the primitive int -/
def k7 : Class := { plain "int" none with kind := .primitive 'I', accessFlags := 0x411 }
/-- [I -/
def k8 : Class := { plain "[I" (some 0) with kind := .array 7 .int, interfaces := #[3, 4], accessFlags := 1041 }

def heap : Heap := #[]
def classes : Array Class := #[k0, k1, k2, k3, k4, k5, k6, k7, k8]
def interned : List (Array UInt16 × Addr) := []
def slotsUsed : Nat := 0
def theMethod : MethodId := ⟨1, 1⟩
def args0 : Array Value := #[.long 5, .long 2, .long 3, .int 1]
def aboutOver (below : List Frame) : State where
  vm := { classes := classes, interned := interned.toArray }
  heap := heap
  slotsUsed := slotsUsed
  threads := #[{ frames := .invoking theMethod args0 :: below }]
def below0 : List Frame := [.native { method := ⟨0, 0⟩, args := #[] }]
def about1 : State := aboutOver below0
def p0 : Program := .bare "" "" ""
def e0 : Env := launch0.env 0 0 0
theorem w_frames : about1.frames = Frame.invoking theMethod args0 :: below0 := rfl
set_option maxRecDepth 65536 in
theorem w_args : argsFit about1.vm theMethod args0 = true := by decide +kernel
set_option maxRecDepth 65536 in
theorem w_heap : heapFits about1 = true := by decide +kernel
set_option maxRecDepth 65536 in
theorem w_runnable : about1.curStatus? = some .runnable := by decide +kernel
set_option maxRecDepth 65536 in
theorem w_alone : about1.alone = true := by decide +kernel
set_option maxRecDepth 65536 in
theorem w_named : about1.methodNamed? x = some theMethod := by decide +kernel
set_option maxRecDepth 65536 in
theorem w_hears : about1.hears theMethod below0 = true := by decide +kernel
set_option maxRecDepth 65536 in
theorem w_ripe : about1.ripe theMethod args0 below0 = true := by decide +kernel
theorem w_running : about1.status = .running := rfl
set_option maxRecDepth 65536 in
theorem w_room : about1.hasRoom e0.platform room_1 = true :=
  launch0.hasRoom_least _ room_1 (by decide +kernel) (by decide +kernel) (by decide +kernel) (by decide +kernel) (by decide +kernel) (by decide +kernel)
theorem allAtoms_all (ts : List Jvm.Cond) (a : Array Jvm.Value) (st : Jvm.State) : (allAtoms ts).before a st = ts.all (fun c => c.before a st) := by
  induction ts with
  | nil => rfl
  | cons c t ih =>
    show (Jvm.Cond.and c (allAtoms t)).before a st = _
    rw [Jvm.Cond.before_and, ih, List.all_cons]
def words1 : List Jvm.Cond := Jvm.Cond.code x code maxLocals ret :: tables_1
/-- a 'code' word, met by the world's own term for the bytes: nothing is compared byte by byte -/
theorem code_word {y : MethodName} {bytes : ByteArray} {mx : Nat} {rt : Option FieldType} {a : Array Value} {s : State} {m : MethodId} {meth : Method} {c : Code} (h1 : s.methodNamed? y = some m) (h2 : s.vm.method? m = some meth) (h3 : meth.code = some c) (h4 : c.code = bytes)
    (h5 : (c.maxLocals == mx && c.exceptionTable.isEmpty && decide (c.maxStack ≤ mostOperands) && decide (meth.sig.returnType = rt) && !meth.locks && decide (parseMethodDescriptor y.desc = some meth.sig)) = true) : (Jvm.Cond.code y bytes mx rt).before a s = true := by
  simp only [Bool.and_eq_true, beq_iff_eq, Bool.not_eq_true', decide_eq_true_eq] at h5
  obtain ⟨⟨⟨⟨⟨g1, g2⟩, g3⟩, g4⟩, g5⟩, g6⟩ := h5
  simp [Cond.before, Cond.holds, Cond.value, h1, h2, h3, h4, g1, g2, g3, g4, g5, g6]
def isCode : Jvm.Cond → Bool
  | .code _ _ _ _ => true
  | _ => false
theorem all_split {L : List Jvm.Cond} {P : Jvm.Cond → Bool} (h1 : L.all (fun c => isCode c || P c) = true) (h2 : ∀ c ∈ L.filter isCode, P c = true) : L.all P = true := by
  refine List.all_eq_true.mpr fun c hc => ?_
  have h := List.all_eq_true.mp h1 c hc
  rcases Bool.eq_false_or_eq_true (isCode c) with hi | hi
  · exact h2 c (List.mem_filter.mpr ⟨hc, hi⟩)
  · simpa [hi] using h
set_option maxRecDepth 65536 in
theorem w_c0 : (Jvm.Cond.code x code maxLocals ret).before args0 about1 = true := code_word (m := ⟨1, 1⟩) (meth := k1m1) (c := k1c1) (by decide +kernel) rfl rfl rfl (by decide +kernel)
set_option maxRecDepth 65536 in
theorem w_c1 : (Jvm.Cond.code ({ cls := "hasp/cli/ProcessTree", name := "handedOutAfter", desc := "(JJJ)Z" } : Jvm.MethodName) prog_36_method_25_code (6 : Nat) (Option.some Jvm.ClassFile.FieldType.boolean)).before args0 about1 = true := code_word (m := ⟨2, 0⟩) (meth := k2m0) (c := k2c0) (by decide +kernel) rfl rfl rfl (by decide +kernel)
set_option maxRecDepth 65536 in
theorem w_c2 : (Jvm.Cond.code ({ cls := "hasp/cli/ProcessTreeHandedOutAfterPinLaw", name := "unsignedAtMost", desc := "(JJ)Z" } : Jvm.MethodName) method_3_code (4 : Nat) (Option.some Jvm.ClassFile.FieldType.boolean)).before args0 about1 = true := code_word (m := ⟨1, 2⟩) (meth := k1m2) (c := k1c2) (by decide +kernel) rfl rfl rfl (by decide +kernel)
def codes1 : List Jvm.Cond := [Jvm.Cond.code x code maxLocals ret, Jvm.Cond.code ({ cls := "hasp/cli/ProcessTree", name := "handedOutAfter", desc := "(JJJ)Z" } : Jvm.MethodName) prog_36_method_25_code (6 : Nat) (Option.some Jvm.ClassFile.FieldType.boolean), Jvm.Cond.code ({ cls := "hasp/cli/ProcessTreeHandedOutAfterPinLaw", name := "unsignedAtMost", desc := "(JJ)Z" } : Jvm.MethodName) method_3_code (4 : Nat) (Option.some Jvm.ClassFile.FieldType.boolean)]
set_option maxRecDepth 65536 in
theorem codes_eq : words1.filter isCode = codes1 := rfl
theorem w_codes : ∀ c ∈ words1.filter isCode, c.before args0 about1 = true := by
  rw [codes_eq]
  intro c hc
  simp only [codes1, List.mem_cons, List.not_mem_nil, or_false] at hc
  rcases hc with rfl | rfl | rfl
  · exact w_c0
  · exact w_c1
  · exact w_c2
set_option maxRecDepth 65536 in
theorem w_t1 : words1.all (fun c => isCode c || c.before args0 about1) = true := by decide +kernel
theorem w_tables : (allAtoms (Jvm.Cond.code x code maxLocals ret :: tables_1)).before args0 about1 = true := by
  rw [allAtoms_all]
  show words1.all (fun c => c.before args0 about1) = true
  refine all_split ?_ w_codes
  rw [w_t1]
set_option maxRecDepth 65536 in
theorem w_case : (Jvm.Cond.and given_1 narrow_1).before args0 about1 = true := by decide +kernel
theorem w_applies : (headSpec (Jvm.Cond.code x code maxLocals ret :: tables_1) room_1).applies x e0.platform about1 = true :=
  (Spec.applies_iff w_frames).mpr ⟨w_running, w_runnable, w_alone, w_named, w_hears, w_ripe, w_room, w_tables⟩
theorem atStart : AtStart classFile x code maxLocals ret World_1 tables_1 room_1 Calls_1 rest_1 Pre_1 launch0 p0 e0 about1 theMethod args0 below0 :=
  ⟨lists_1, trivial, launch0.admits_env _ _ _, launch0.least_env, fairChoices_fair.cas, fairChoices_fair.clock, w_frames, w_args, w_heap, w_applies, trivial, trivial, w_case⟩
end start1
theorem witness_1 : WitnessClaimed_1 := ⟨start1.p0, start1.e0, start1.about1, start1.theMethod, start1.args0, start1.below0, start1.atStart⟩
end Jvm.Pilot.@@N@@
