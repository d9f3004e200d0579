import JvmDerived
import JvmDerived.Pilot.@@N@@Statement
import JvmDerived.Pilot.@@N@@Code
set_option linter.unusedVariables false
set_option linter.unusedSimpArgs false
namespace Jvm.RoadKit
open Sem ClassFile Op Lib Jvm.Stand Jvm.Free Jvm.LawKit
section New
variable {p : Program} {l : Launch} {e : Env} {R : Room} {s : State} {m : MethodId} {args : Array Value} {below : List Frame} {meth : Method} {c : Code} {T : State} {locs : List Loc} {cells slots : Nat}
theorem retI (X : Stand p l e R s m args below meth c T locs cells slots) (hx : p.tables.exec = Jvm.exec) {pc : Nat} {Ls : Array Slot} {z : Int32} {rest : List Value} (hret : meth.sig.returnType = some .int) (hd : decode c.code pc = .ok (.ireturn, 1)) {fs : List Frame}
    (hl : ∀ (f : JFrame) (acts : List Action), f.method = m → f.locked = none → f.entered = [] → (doReturn e (T.setTop f) acts (some (.int z))).1 = T.setFrames fs) : Steps p.tables e below (T.setTop (mkF m pc Ls (.int z :: rest))) (T.setFrames fs) :=
  retOut X hx hret rfl (Or.inl ⟨rfl, Or.inl rfl, _, rfl⟩) hd hl
theorem retJ (X : Stand p l e R s m args below meth c T locs cells slots) (hx : p.tables.exec = Jvm.exec) {pc : Nat} {Ls : Array Slot} {z : Int64} {rest : List Value} (hret : meth.sig.returnType = some .long) (hd : decode c.code pc = .ok (.lreturn, 1)) {fs : List Frame}
    (hl : ∀ (f : JFrame) (acts : List Action), f.method = m → f.locked = none → f.entered = [] → (doReturn e (T.setTop f) acts (some (.long z))).1 = T.setFrames fs) : Steps p.tables e below (T.setTop (mkF m pc Ls (.long z :: rest))) (T.setFrames fs) :=
  retOut X hx hret rfl (Or.inr (Or.inl ⟨rfl, rfl, _, rfl⟩)) hd hl
theorem retR (X : Stand p l e R s m args below meth c T locs cells slots) (hx : p.tables.exec = Jvm.exec) {pc : Nat} {Ls : Array Slot} {w : Value} {t : FieldType} {rest : List Value} (hret : meth.sig.returnType = some t) (ht : t.isReference = true) (hv : w.isRef = true) (hd : decode c.code pc = .ok (.areturn, 1)) {fs : List Frame}
    (hl : ∀ (f : JFrame) (acts : List Action), f.method = m → f.locked = none → f.entered = [] → (doReturn e (T.setTop f) acts (some w)).1 = T.setFrames fs) : Steps p.tables e below (T.setTop (mkF m pc Ls (w :: rest))) (T.setFrames fs) :=
  retOut X hx hret (by cases t <;> simp_all [narrow, FieldType.isReference]) (Or.inr (Or.inr (Or.inr (Or.inr ⟨rfl, ht, hv⟩)))) hd hl
end New
end Jvm.RoadKit
namespace Jvm.Pilot.@@N@@
open Jvm Jvm.ClassFile Sem Op Lib Jvm.Free Jvm.Stand Jvm.LawKit Jvm.RoadKit Bundle Jvm.Pilot.@@N@@.Jvm.D
def Done (p : Program) (e : Env) (below : List Frame) (P : State → Outcome → Prop) (A : State) : Prop := ∃ s₂ o, Steps p.tables e below A s₂ ∧ s₂.status = .running ∧ Ended s₂ below o ∧ P s₂ o
theorem Done.st {p : Program} {e : Env} {below : List Frame} {P : State → Outcome → Prop} {A B : State} (k : ∀ t, Steps p.tables e below B t → Steps p.tables e below A t) (h : Done p e below P B) : Done p e below P A := by
  obtain ⟨s₂, o, h1, h2⟩ := h; exact ⟨s₂, o, k _ h1, h2⟩
theorem Done.fin {p : Program} {e : Env} {below : List Frame} {P : State → Outcome → Prop} {A U : State} {o : Outcome} (k : Steps p.tables e below A U) (h1 : U.status = .running) (h2 : Ended U below o) (h3 : P U o) : Done p e below P A := ⟨U, o, k, h1, h2, h3⟩
theorem d1_0 : decode prog_45_method_3_code 0 = .ok (.iload_n 0, 1) := by decide +kernel
theorem d1_1 : decode prog_45_method_3_code 1 = .ok (.bipush 65, 2) := by decide +kernel
theorem d1_3 : decode prog_45_method_3_code 3 = .ok (.if_icmp .lt 13, 3) := by decide +kernel
theorem d1_6 : decode prog_45_method_3_code 6 = .ok (.iload_n 0, 1) := by decide +kernel
theorem d1_7 : decode prog_45_method_3_code 7 = .ok (.bipush 90, 2) := by decide +kernel
theorem d1_9 : decode prog_45_method_3_code 9 = .ok (.if_icmp .gt 7, 3) := by decide +kernel
theorem d1_12 : decode prog_45_method_3_code 12 = .ok (.iconst 1, 1) := by decide +kernel
theorem d1_13 : decode prog_45_method_3_code 13 = .ok (.goto 4, 3) := by decide +kernel
theorem d1_16 : decode prog_45_method_3_code 16 = .ok (.iconst 0, 1) := by decide +kernel
theorem d1_17 : decode prog_45_method_3_code 17 = .ok (.ireturn, 1) := by decide +kernel
theorem pn_0 : plainName "com/example/nameward/nameward/util/Ascii" = true := by first | (simp [plainName, overriddenIn]; done) | decide +kernel
theorem pn_1 : plainName "com/example/nameward/nameward/util/AsciiIsUpperCasePinLaw" = true := by first | (simp [plainName, overriddenIn]; done) | decide +kernel
theorem pd_0 : parseMethodDescriptor "(C)Z" = some ⟨[.char], some .boolean⟩ := by decide +kernel
def own_up (c : Int32) : Int32 := if c < 65 then 0 else if 90 < c then 0 else 1
theorem own_or32 (c : Int32) (h : c &&& 32 = 0) : c ||| 32 = c + 32 := by
  have hb : c.toBitVec &&& 32#32 = 0#32 := by have := congrArg Int32.toBitVec h; simpa using this
  have := BitVec.add_eq_or_of_and_eq_zero _ _ hb
  apply Int32.toBitVec_inj.mp
  simpa using this.symm
theorem own_and32 (c : Int32) (h0 : 0 ≤ c.toInt) (hU : 65 ≤ c.toInt) (hV : c.toInt ≤ 90) : c &&& 32 = 0 := by
  have e : ∀ n : Nat, 65 ≤ n → n ≤ 90 → n &&& 32 = 0 := by
    intro n h1 h2
    have : ∀ k : Fin 26, (65 + k.val) &&& 32 = 0 := by decide
    have h3 := this ⟨n - 65, by omega⟩
    have h4 : 65 + (n - 65) = n := by omega
    simpa [h4] using h3
  apply Int32.toBitVec_inj.mp
  apply BitVec.eq_of_toNat_eq
  have hn : c.toInt = (c.toBitVec.toNat : Int) := by
    have q : c.toInt = c.toBitVec.toInt := rfl
    rw [q, BitVec.toInt_eq_toNat_cond] at h0 ⊢
    split at h0 <;> rename_i hc
    · rw [if_pos hc]
    · have := c.toBitVec.isLt; omega
  have := e c.toBitVec.toNat (by omega) (by omega)
  simpa [BitVec.toNat_and] using this
theorem own_law (c : Int32) (h0 : 0 ≤ c.toInt) (h1 : c.toInt < 65536) : own_up c = if c &&& 32 = 0 ∧ ¬ (c ||| 32) < 97 ∧ ¬ 122 < (c ||| 32) then 1 else 0 := by
  have k65 : ((65 : Int32)).toInt = 65 := rfl
  have k90 : ((90 : Int32)).toInt = 90 := rfl
  have k97 : ((97 : Int32)).toInt = 97 := rfl
  have k122 : ((122 : Int32)).toInt = 122 := rfl
  have k32 : ((32 : Int32)).toInt = 32 := rfl
  by_cases hz : c &&& 32 = 0
  · have e := own_or32 c hz
    have e2 := c_iadd c 32
    have r2 := rng32 (c + 32)
    rw [e]
    simp only [own_up, hz, true_and, Int32.lt_iff_toInt_lt, k65, k90, k97, k122]
    rw [k32] at e2
    by_cases a : c.toInt < 65
    · rw [if_pos a, if_neg (by omega)]
    · rw [if_neg a]
      by_cases b : 90 < c.toInt
      · rw [if_pos b, if_neg (by omega)]
      · rw [if_neg b, if_pos (by omega)]
  · rw [if_neg (fun z => hz z.1)]
    simp only [own_up, Int32.lt_iff_toInt_lt, k65, k90]
    by_cases a : c.toInt < 65
    · rw [if_pos a]
    · rw [if_neg a]
      by_cases b : 90 < c.toInt
      · rw [if_pos b]
      · exact absurd (own_and32 c h0 (by omega) (by omega)) hz

theorem ef_rm1 (m : MethodId) (ch : Int32) : entryFrame m #[(.int ch)] 1 = mkF m 0 #[.val (.int ch)] [] := by first | (simp [entryFrame, mkF, argsToLocals, Value.category]; done) | rfl
def Qrm1 (Z : State) (ch : Int32) (h0 : Heap) (n0 : Nat) (v : Option Value) (h : Heap) (L : List Loc) : Prop := v = some (.int (own_up ch)) ∧ Fr n0 L ∧ h = h0
def Prm1 (s : State) (Z : State) (ch : Int32) (h0 : Heap) (n0 : Nat) : State → Outcome → Prop := fun U' o => ∃ v L, o = .returned v ∧ Qrm1 Z ch h0 n0 v U'.heap L ∧ FrameEnd s o U' L ({ frames := 0, cells := 0, slots := 0, locals := 0 } : Room).cells ({ frames := 0, cells := 0, slots := 0, locals := 0 } : Room).slots
set_option maxRecDepth 65536 in
set_option maxHeartbeats 40000000 in
theorem rm1 (l : Launch) (Z : State) (a0 : Array Value) (hw : ∀ d ∈ tables_1, d.before a0 Z = true) (ws : List Jvm.Cond) (ch : Int32) (h0 : Heap) (n0 : Nat) (Z0 : n0 ≤ h0.size) :
    MetFree l (⟨"com/example/nameward/nameward/util/Ascii", "isUpperCase", "(C)Z"⟩ : MethodName) (head1 (Jvm.Cond.code (⟨"com/example/nameward/nameward/util/Ascii", "isUpperCase", "(C)Z"⟩ : MethodName) prog_45_method_3_code 1 (some .boolean) :: ws) ({ frames := 0, cells := 0, slots := 0, locals := 0 } : Room)) (fun aa U => aa = #[(.int ch)] ∧ Z.Warmed39 U.vm ∧ U.heap = h0) (fun _ _ _ _ _ => True) (fun _ U o U' => ∃ v L, o = .returned v ∧ Qrm1 Z ch h0 n0 v U'.heap L ∧ FrameEnd U o U' L ({ frames := 0, cells := 0, slots := 0, locals := 0 } : Room).cells ({ frames := 0, cells := 0, slots := 0, locals := 0 } : Room).slots) := by
  refine MetFree.of_bodySF (plainFor_of_name pn_0) hisR ?_
  intro p e s m args below meth c s₁ Bd hml0 hP hK
  obtain ⟨rfl, hZ, hh⟩ := hP
  have hx := Bd.exec
  have hby := Bd.bytes
  have hml : c.maxLocals = 1 := hml0
  have hown : s.vm.findClass "com/example/nameward/nameward/util/Ascii" = some m.cls := findClass_of_methodNamed Bd.named
  have hnm := (name_of_methodNamed Bd.named Bd.method).1
  have X0 : Stand p l e ({ frames := 0, cells := 0, slots := 0, locals := 0 } : Room) s m #[(.int ch)] below meth c s₁ [] 0 0 := Stand.of_body Bd
  have e0 : s₁.heap = h0 := by rw [← hh, Bd.state]; rfl
  have N0 := Fr.nil n0
  show Done p e below (Prm1 s Z ch h0 n0) (s₁.setTop (entryFrame m #[(.int ch)] 1))
  refine Done.st (B := s₁.setTop (mkF m 0 #[.val (.int ch)] [])) (fun _ k => castTop (ef_rm1 m ch) k) ?_
  refine Done.st (B := s₁.setTop (mkF m 1 #[.val (.int ch)] [(.int ch)])) (fun _ k => XS.iloadN X0.here hx rfl (hb hby d1_0) rfl k) ?_
  refine Done.st (B := s₁.setTop (mkF m 3 #[.val (.int ch)] [(.int (65 : Int32)), (.int ch)])) (fun _ k => XS.bipush X0.here hx rfl (hb hby d1_1) k) ?_
  by_cases hc3 : ch < (65 : Int32)
  · refine Done.st (B := s₁.setTop (mkF m 16 #[.val (.int ch)] [])) (fun _ k => XS.icmpYes X0.here hx rfl (pc0 := 3) (pc' := 16) rfl (hb hby d1_3) rfl (tlt hc3).1 (by decide) (by decide) k) ?_
    refine Done.st (B := s₁.setTop (mkF m 17 #[.val (.int ch)] [(.int (0 : Int32))])) (fun _ k => XS.iconst X0.here hx rfl (hb hby d1_16) k) ?_
    obtain ⟨fs, hr, hrun, hended, hW, hsame⟩ := X0.leave (v := some (.int (0 : Int32))) (fun h => by rw [Bd.returns] at h; cases h)
    refine Done.fin (retN X0 hx (t := .boolean) Bd.returns (by simp) (hb hby d1_17) hr) hrun hended ⟨_, _, rfl, ?_, ⟨_, rfl⟩, hW, hsame.mono (by decide) (by decide)⟩
    show Qrm1 Z ch h0 n0 _ s₁.heap _
    rw [e0]
    exact ⟨by simp [own_up, hc3], N0, rfl⟩
  · refine Done.st (B := s₁.setTop (mkF m 6 #[.val (.int ch)] [])) (fun _ k => XS.icmpNo X0.here hx rfl (hb hby d1_3) rfl (flt hc3).1 k) ?_
    refine Done.st (B := s₁.setTop (mkF m 7 #[.val (.int ch)] [(.int ch)])) (fun _ k => XS.iloadN X0.here hx rfl (hb hby d1_6) rfl k) ?_
    refine Done.st (B := s₁.setTop (mkF m 9 #[.val (.int ch)] [(.int (90 : Int32)), (.int ch)])) (fun _ k => XS.bipush X0.here hx rfl (hb hby d1_7) k) ?_
    by_cases hc9 : (90 : Int32) < ch
    · refine Done.st (B := s₁.setTop (mkF m 16 #[.val (.int ch)] [])) (fun _ k => XS.icmpYes X0.here hx rfl (pc0 := 9) (pc' := 16) rfl (hb hby d1_9) rfl (tlt hc9).2.2.1 (by decide) (by decide) k) ?_
      refine Done.st (B := s₁.setTop (mkF m 17 #[.val (.int ch)] [(.int (0 : Int32))])) (fun _ k => XS.iconst X0.here hx rfl (hb hby d1_16) k) ?_
      obtain ⟨fs, hr, hrun, hended, hW, hsame⟩ := X0.leave (v := some (.int (0 : Int32))) (fun h => by rw [Bd.returns] at h; cases h)
      refine Done.fin (retN X0 hx (t := .boolean) Bd.returns (by simp) (hb hby d1_17) hr) hrun hended ⟨_, _, rfl, ?_, ⟨_, rfl⟩, hW, hsame.mono (by decide) (by decide)⟩
      show Qrm1 Z ch h0 n0 _ s₁.heap _
      rw [e0]
      exact ⟨by simp [own_up, hc3, hc9], N0, rfl⟩
    · refine Done.st (B := s₁.setTop (mkF m 12 #[.val (.int ch)] [])) (fun _ k => XS.icmpNo X0.here hx rfl (hb hby d1_9) rfl (flt hc9).2.2.1 k) ?_
      refine Done.st (B := s₁.setTop (mkF m 13 #[.val (.int ch)] [(.int (1 : Int32))])) (fun _ k => XS.iconst X0.here hx rfl (hb hby d1_12) k) ?_
      refine Done.st (B := s₁.setTop (mkF m 17 #[.val (.int ch)] [(.int (1 : Int32))])) (fun _ k => XS.goto X0.here hx rfl (pc0 := 13) (pc' := 17) rfl (hb hby d1_13) (by decide) (by decide) k) ?_
      obtain ⟨fs, hr, hrun, hended, hW, hsame⟩ := X0.leave (v := some (.int (1 : Int32))) (fun h => by rw [Bd.returns] at h; cases h)
      refine Done.fin (retN X0 hx (t := .boolean) Bd.returns (by simp) (hb hby d1_17) hr) hrun hended ⟨_, _, rfl, ?_, ⟨_, rfl⟩, hW, hsame.mono (by decide) (by decide)⟩
      show Qrm1 Z ch h0 n0 _ s₁.heap _
      rw [e0]
      exact ⟨by simp [own_up, hc3, hc9], N0, rfl⟩
theorem ef_rm0 (m : MethodId) (x0 : Int32) : entryFrame m #[(.int x0)] maxLocals = mkF m 0 #[.val (.int x0), .unset, .unset, .unset] [] := by first | (simp [entryFrame, mkF, argsToLocals, Value.category, maxLocals]; done) | rfl
def Qrm0 (Z : State) (x0 : Int32) (h0 : Heap) (n0 : Nat) (v : Option Value) (h : Heap) (L : List Loc) : Prop := v = some (.int 1) ∧ Fr n0 L
def Prm0 (s : State) (Z : State) (x0 : Int32) (h0 : Heap) (n0 : Nat) : State → Outcome → Prop := fun U' o => ∃ v L, o = .returned v ∧ Qrm0 Z x0 h0 n0 v U'.heap L ∧ FrameEnd s o U' L room_1.cells room_1.slots
set_option maxRecDepth 65536 in
set_option maxHeartbeats 40000000 in
theorem rm0 (l : Launch) (Z : State) (a0 : Array Value) (hw : ∀ d ∈ tables_1, d.before a0 Z = true) (ws : List Jvm.Cond) (x0 : Int32) (h0 : Heap) (n0 : Nat) (Z0 : n0 ≤ h0.size) :
    MetFree l x (head1 (Jvm.Cond.code x code maxLocals ret :: ws) room_1) (fun aa U => aa = #[(.int x0)] ∧ Z.Warmed39 U.vm ∧ U.heap = h0) (fun _ _ _ _ _ => True) (fun _ U o U' => ∃ v L, o = .returned v ∧ Qrm0 Z x0 h0 n0 v U'.heap L ∧ FrameEnd U o U' L room_1.cells room_1.slots) := by
  refine MetFree.of_bodySF (plainFor_of_name pn_1) hisR ?_
  intro p e s m args below meth c s₁ Bd hml0 hP hK
  obtain ⟨rfl, hZ, hh⟩ := hP
  have hx := Bd.exec
  have hby := Bd.bytes
  have hml : c.maxLocals = 4 := hml0
  have hown : s.vm.findClass "com/example/nameward/nameward/util/AsciiIsUpperCasePinLaw" = some m.cls := findClass_of_methodNamed Bd.named
  have hnm := (name_of_methodNamed Bd.named Bd.method).1
  have X0 : Stand p l e room_1 s m #[(.int x0)] below meth c s₁ [] 0 0 := Stand.of_body Bd
  have e0 : s₁.heap = h0 := by rw [← hh, Bd.state]; rfl
  have N0 := Fr.nil n0
  show Done p e below (Prm0 s Z x0 h0 n0) (s₁.setTop (entryFrame m #[(.int x0)] maxLocals))
  refine Done.st (B := s₁.setTop (mkF m 0 #[.val (.int x0), .unset, .unset, .unset] [])) (fun _ k => castTop (ef_rm0 m x0) k) ?_
  refine Done.st (B := s₁.setTop (mkF m 1 #[.val (.int x0), .unset, .unset, .unset] [(.int x0)])) (fun _ k => XS.iloadN X0.here hx rfl (hb hby at_0) rfl k) ?_
  refine Done.st (B := s₁.setTop (mkF m 3 #[.val (.int x0), .unset, .unset, .unset] [(.int (65535 : Int32)), (.int x0)])) (fun _ k => X0.ldcInt hx hown (mvT hZ (hw _ (List.mem_of_getElem? (i := 0) rfl))) (g := (mkF m 1 #[.val (.int x0), .unset, .unset, .unset] [(.int x0)])) rfl (hb hby at_1) _ k) ?_
  refine Done.st (B := s₁.setTop (mkF m 4 #[.val (.int x0), .unset, .unset, .unset] [(.int (x0 &&& (65535 : Int32)))])) (fun _ k => XS.iand X0.here hx rfl (hb hby at_3) rfl k) ?_
  refine Done.st (B := s₁.setTop (mkF m 5 #[.val (.int x0), .unset, .unset, .unset] [(.int ((x0 &&& (65535 : Int32)).toUInt32.toUInt16.toUInt32.toInt32))])) (fun _ k => XS.i2c X0.here hx rfl (hb hby at_4) rfl k) ?_
  have j6 : ∀ (ch : Int32) (hlo : 0 ≤ ch.toInt) (hhi : ch.toInt < 65536), Done p e below (Prm0 s Z x0 h0 n0) (s₁.setTop (mkF m 6 #[.val (.int x0), .val (.int ch), .unset, .unset] [])) := by
    intro ch hlo hhi
    refine Done.st (B := s₁.setTop (mkF m 7 #[.val (.int x0), .val (.int ch), .unset, .unset] [(.int ch)])) (fun _ k => XS.iloadN X0.here hx rfl (hb hby at_6) rfl k) ?_
    refine Done.st (B := s₁.setTop (mkF m 9 #[.val (.int x0), .val (.int ch), .unset, .unset] [(.int (32 : Int32)), (.int ch)])) (fun _ k => XS.bipush X0.here hx rfl (hb hby at_7) k) ?_
    refine Done.st (B := s₁.setTop (mkF m 10 #[.val (.int x0), .val (.int ch), .unset, .unset] [(.int (ch ||| (32 : Int32)))])) (fun _ k => XS.ior X0.here hx rfl (hb hby at_9) rfl k) ?_
    refine Done.st (B := s₁.setTop (mkF m 11 #[.val (.int x0), .val (.int ch), .val (.int (ch ||| (32 : Int32))), .unset] [])) (fun _ k => XS.istoreN X0.here hx rfl (hb hby at_10) rfl (l' := #[.val (.int x0), .val (.int ch), .val (.int (ch ||| (32 : Int32))), .unset]) rfl k) ?_
    refine Done.st (B := s₁.setTop (mkF m 12 #[.val (.int x0), .val (.int ch), .val (.int (ch ||| (32 : Int32))), .unset] [(.int ch)])) (fun _ k => XS.iloadN X0.here hx rfl (hb hby at_11) rfl k) ?_
    refine Done.st (B := s₁.setTop (mkF m 14 #[.val (.int x0), .val (.int ch), .val (.int (ch ||| (32 : Int32))), .unset] [(.int (32 : Int32)), (.int ch)])) (fun _ k => XS.bipush X0.here hx rfl (hb hby at_12) k) ?_
    refine Done.st (B := s₁.setTop (mkF m 15 #[.val (.int x0), .val (.int ch), .val (.int (ch ||| (32 : Int32))), .unset] [(.int (ch &&& (32 : Int32)))])) (fun _ k => XS.iand X0.here hx rfl (hb hby at_14) rfl k) ?_
    by_cases hc15 : (ch &&& (32 : Int32)) = (0 : Int32)
    · refine Done.st (B := s₁.setTop (mkF m 18 #[.val (.int x0), .val (.int ch), .val (.int (ch ||| (32 : Int32))), .unset] [])) (fun _ k => XS.ifNo X0.here hx rfl (hb hby at_15) rfl ((if0 _ _).trans (teq hc15).2) k) ?_
      refine Done.st (B := s₁.setTop (mkF m 19 #[.val (.int x0), .val (.int ch), .val (.int (ch ||| (32 : Int32))), .unset] [(.int (ch ||| (32 : Int32)))])) (fun _ k => XS.iloadN X0.here hx rfl (hb hby at_18) rfl k) ?_
      refine Done.st (B := s₁.setTop (mkF m 21 #[.val (.int x0), .val (.int ch), .val (.int (ch ||| (32 : Int32))), .unset] [(.int (97 : Int32)), (.int (ch ||| (32 : Int32)))])) (fun _ k => XS.bipush X0.here hx rfl (hb hby at_19) k) ?_
      by_cases hc21 : (ch ||| (32 : Int32)) < (97 : Int32)
      · refine Done.st (B := s₁.setTop (mkF m 34 #[.val (.int x0), .val (.int ch), .val (.int (ch ||| (32 : Int32))), .unset] [])) (fun _ k => XS.icmpYes X0.here hx rfl (pc0 := 21) (pc' := 34) rfl (hb hby at_21) rfl (tlt hc21).1 (by decide) (by decide) k) ?_
        refine Done.st (B := s₁.setTop (mkF m 35 #[.val (.int x0), .val (.int ch), .val (.int (ch ||| (32 : Int32))), .unset] [(.int (0 : Int32))])) (fun _ k => XS.iconst X0.here hx rfl (hb hby at_34) k) ?_
        refine Done.st (B := s₁.setTop (mkF m 36 #[.val (.int x0), .val (.int ch), .val (.int (ch ||| (32 : Int32))), .val (.int (0 : Int32))] [])) (fun _ k => XS.istoreN X0.here hx rfl (hb hby at_35) rfl (l' := #[.val (.int x0), .val (.int ch), .val (.int (ch ||| (32 : Int32))), .val (.int (0 : Int32))]) rfl k) ?_
        refine Done.st (B := s₁.setTop (mkF m 37 #[.val (.int x0), .val (.int ch), .val (.int (ch ||| (32 : Int32))), .val (.int (0 : Int32))] [(.int ch)])) (fun _ k => XS.iloadN X0.here hx rfl (hb hby at_36) rfl k) ?_
        obtain ⟨_, _, ⟨T1, L1, k1, n1⟩, -, X1, ⟨Lc1, hQ1, l1, y1, z1⟩, st1⟩ := Jvm.LawKit.callS X0 hx (y := (⟨"com/example/nameward/nameward/util/Ascii", "isUpperCase", "(C)Z"⟩ : MethodName)) hown (mvT hZ (hw _ (List.mem_of_getElem? (i := 1) rfl))) (mvT hZ (hw _ (List.mem_of_getElem? (i := 2) rfl))) (mvT hZ (hw _ (List.mem_of_getElem? (i := 3) rfl))) (mvT hZ (hw _ (List.mem_of_getElem? (i := 4) rfl))) (by decide) (backOf (W := 0) (rm1 l Z a0 hw [] ch h0 n0 Z0) hZ (hw _ (List.mem_of_getElem? (i := 4) rfl)) (hw _ (List.mem_of_getElem? (i := 3) rfl)) (by decide) (by decide)) (g := (mkF m 37 #[.val (.int x0), .val (.int ch), .val (.int (ch ||| (32 : Int32))), .val (.int (0 : Int32))] [(.int ch)])) rfl (by rw [hml]; rfl) (argsL := [(.int ch)]) (rest := []) (lenOf pd_0 rfl) rfl (by show 2 * 0 + _ ≤ _; exact Nat.le_of_eq rfl) (hb hby at_37) (fun _ _ => ⟨rfl, e0, (by decide : 0 + 0 ≤ _), (by decide : 0 + 0 ≤ _)⟩)
        dsimp only [Pt.U, Pt.locs, Pt.cells, Pt.slots] at X1 l1 y1 z1 st1 hQ1
        subst l1 y1 z1
        obtain ⟨rfl, N1q, e1⟩ := hQ1
        have N1 := Fr.app N0 N1q
        refine Done.st (B := T1.setTop (mkF m 40 #[.val (.int x0), .val (.int ch), .val (.int (ch ||| (32 : Int32))), .val (.int (0 : Int32))] [(.int (own_up ch))])) (fun _ k => st1 _ k) ?_
        refine Done.st (B := T1.setTop (mkF m 41 #[.val (.int x0), .val (.int ch), .val (.int (ch ||| (32 : Int32))), .val (.int (0 : Int32))] [(.int (0 : Int32)), (.int (own_up ch))])) (fun _ k => XS.iloadN X1.here hx rfl (hb hby at_40) rfl k) ?_
        by_cases hc41 : (own_up ch) = (0 : Int32)
        · refine Done.st (B := T1.setTop (mkF m 44 #[.val (.int x0), .val (.int ch), .val (.int (ch ||| (32 : Int32))), .val (.int (0 : Int32))] [])) (fun _ k => XS.icmpNo X1.here hx rfl (hb hby at_41) rfl (teq hc41).2 k) ?_
          refine Done.st (B := T1.setTop (mkF m 45 #[.val (.int x0), .val (.int ch), .val (.int (ch ||| (32 : Int32))), .val (.int (0 : Int32))] [(.int (1 : Int32))])) (fun _ k => XS.iconst X1.here hx rfl (hb hby at_44) k) ?_
          refine Done.st (B := T1.setTop (mkF m 49 #[.val (.int x0), .val (.int ch), .val (.int (ch ||| (32 : Int32))), .val (.int (0 : Int32))] [(.int (1 : Int32))])) (fun _ k => XS.goto X1.here hx rfl (pc0 := 45) (pc' := 49) rfl (hb hby at_45) (by decide) (by decide) k) ?_
          obtain ⟨fs, hr, hrun, hended, hW, hsame⟩ := X1.leave (v := some (.int (1 : Int32))) (fun h => by rw [Bd.returns] at h; cases h)
          refine Done.fin (retN X1 hx (t := .boolean) Bd.returns (by simp) (hb hby at_49) hr) hrun hended ⟨_, _, rfl, ?_, ⟨_, rfl⟩, hW, hsame.mono (by decide) (by decide)⟩
          show Qrm0 Z x0 h0 n0 _ T1.heap _
          rw [e1]
          exact ⟨rfl, N1⟩
        · refine Done.st (B := T1.setTop (mkF m 48 #[.val (.int x0), .val (.int ch), .val (.int (ch ||| (32 : Int32))), .val (.int (0 : Int32))] [])) (fun _ k => XS.icmpYes X1.here hx rfl (pc0 := 41) (pc' := 48) rfl (hb hby at_41) rfl (feq hc41).2 (by decide) (by decide) k) ?_
          refine Done.st (B := T1.setTop (mkF m 49 #[.val (.int x0), .val (.int ch), .val (.int (ch ||| (32 : Int32))), .val (.int (0 : Int32))] [(.int (0 : Int32))])) (fun _ k => XS.iconst X1.here hx rfl (hb hby at_48) k) ?_
          exact absurd (own_law ch hlo hhi) (by simp_all)
      · refine Done.st (B := s₁.setTop (mkF m 24 #[.val (.int x0), .val (.int ch), .val (.int (ch ||| (32 : Int32))), .unset] [])) (fun _ k => XS.icmpNo X0.here hx rfl (hb hby at_21) rfl (flt hc21).1 k) ?_
        refine Done.st (B := s₁.setTop (mkF m 25 #[.val (.int x0), .val (.int ch), .val (.int (ch ||| (32 : Int32))), .unset] [(.int (ch ||| (32 : Int32)))])) (fun _ k => XS.iloadN X0.here hx rfl (hb hby at_24) rfl k) ?_
        refine Done.st (B := s₁.setTop (mkF m 27 #[.val (.int x0), .val (.int ch), .val (.int (ch ||| (32 : Int32))), .unset] [(.int (122 : Int32)), (.int (ch ||| (32 : Int32)))])) (fun _ k => XS.bipush X0.here hx rfl (hb hby at_25) k) ?_
        by_cases hc27 : (122 : Int32) < (ch ||| (32 : Int32))
        · refine Done.st (B := s₁.setTop (mkF m 34 #[.val (.int x0), .val (.int ch), .val (.int (ch ||| (32 : Int32))), .unset] [])) (fun _ k => XS.icmpYes X0.here hx rfl (pc0 := 27) (pc' := 34) rfl (hb hby at_27) rfl (tlt hc27).2.2.1 (by decide) (by decide) k) ?_
          refine Done.st (B := s₁.setTop (mkF m 35 #[.val (.int x0), .val (.int ch), .val (.int (ch ||| (32 : Int32))), .unset] [(.int (0 : Int32))])) (fun _ k => XS.iconst X0.here hx rfl (hb hby at_34) k) ?_
          refine Done.st (B := s₁.setTop (mkF m 36 #[.val (.int x0), .val (.int ch), .val (.int (ch ||| (32 : Int32))), .val (.int (0 : Int32))] [])) (fun _ k => XS.istoreN X0.here hx rfl (hb hby at_35) rfl (l' := #[.val (.int x0), .val (.int ch), .val (.int (ch ||| (32 : Int32))), .val (.int (0 : Int32))]) rfl k) ?_
          refine Done.st (B := s₁.setTop (mkF m 37 #[.val (.int x0), .val (.int ch), .val (.int (ch ||| (32 : Int32))), .val (.int (0 : Int32))] [(.int ch)])) (fun _ k => XS.iloadN X0.here hx rfl (hb hby at_36) rfl k) ?_
          obtain ⟨_, _, ⟨T3, L3, k3, n3⟩, -, X3, ⟨Lc3, hQ3, l3, y3, z3⟩, st3⟩ := Jvm.LawKit.callS X0 hx (y := (⟨"com/example/nameward/nameward/util/Ascii", "isUpperCase", "(C)Z"⟩ : MethodName)) hown (mvT hZ (hw _ (List.mem_of_getElem? (i := 1) rfl))) (mvT hZ (hw _ (List.mem_of_getElem? (i := 2) rfl))) (mvT hZ (hw _ (List.mem_of_getElem? (i := 3) rfl))) (mvT hZ (hw _ (List.mem_of_getElem? (i := 4) rfl))) (by decide) (backOf (W := 0) (rm1 l Z a0 hw [] ch h0 n0 Z0) hZ (hw _ (List.mem_of_getElem? (i := 4) rfl)) (hw _ (List.mem_of_getElem? (i := 3) rfl)) (by decide) (by decide)) (g := (mkF m 37 #[.val (.int x0), .val (.int ch), .val (.int (ch ||| (32 : Int32))), .val (.int (0 : Int32))] [(.int ch)])) rfl (by rw [hml]; rfl) (argsL := [(.int ch)]) (rest := []) (lenOf pd_0 rfl) rfl (by show 2 * 0 + _ ≤ _; exact Nat.le_of_eq rfl) (hb hby at_37) (fun _ _ => ⟨rfl, e0, (by decide : 0 + 0 ≤ _), (by decide : 0 + 0 ≤ _)⟩)
          dsimp only [Pt.U, Pt.locs, Pt.cells, Pt.slots] at X3 l3 y3 z3 st3 hQ3
          subst l3 y3 z3
          obtain ⟨rfl, N3q, e3⟩ := hQ3
          have N3 := Fr.app N0 N3q
          refine Done.st (B := T3.setTop (mkF m 40 #[.val (.int x0), .val (.int ch), .val (.int (ch ||| (32 : Int32))), .val (.int (0 : Int32))] [(.int (own_up ch))])) (fun _ k => st3 _ k) ?_
          refine Done.st (B := T3.setTop (mkF m 41 #[.val (.int x0), .val (.int ch), .val (.int (ch ||| (32 : Int32))), .val (.int (0 : Int32))] [(.int (0 : Int32)), (.int (own_up ch))])) (fun _ k => XS.iloadN X3.here hx rfl (hb hby at_40) rfl k) ?_
          by_cases hc41 : (own_up ch) = (0 : Int32)
          · refine Done.st (B := T3.setTop (mkF m 44 #[.val (.int x0), .val (.int ch), .val (.int (ch ||| (32 : Int32))), .val (.int (0 : Int32))] [])) (fun _ k => XS.icmpNo X3.here hx rfl (hb hby at_41) rfl (teq hc41).2 k) ?_
            refine Done.st (B := T3.setTop (mkF m 45 #[.val (.int x0), .val (.int ch), .val (.int (ch ||| (32 : Int32))), .val (.int (0 : Int32))] [(.int (1 : Int32))])) (fun _ k => XS.iconst X3.here hx rfl (hb hby at_44) k) ?_
            refine Done.st (B := T3.setTop (mkF m 49 #[.val (.int x0), .val (.int ch), .val (.int (ch ||| (32 : Int32))), .val (.int (0 : Int32))] [(.int (1 : Int32))])) (fun _ k => XS.goto X3.here hx rfl (pc0 := 45) (pc' := 49) rfl (hb hby at_45) (by decide) (by decide) k) ?_
            obtain ⟨fs, hr, hrun, hended, hW, hsame⟩ := X3.leave (v := some (.int (1 : Int32))) (fun h => by rw [Bd.returns] at h; cases h)
            refine Done.fin (retN X3 hx (t := .boolean) Bd.returns (by simp) (hb hby at_49) hr) hrun hended ⟨_, _, rfl, ?_, ⟨_, rfl⟩, hW, hsame.mono (by decide) (by decide)⟩
            show Qrm0 Z x0 h0 n0 _ T3.heap _
            rw [e3]
            exact ⟨rfl, N3⟩
          · refine Done.st (B := T3.setTop (mkF m 48 #[.val (.int x0), .val (.int ch), .val (.int (ch ||| (32 : Int32))), .val (.int (0 : Int32))] [])) (fun _ k => XS.icmpYes X3.here hx rfl (pc0 := 41) (pc' := 48) rfl (hb hby at_41) rfl (feq hc41).2 (by decide) (by decide) k) ?_
            refine Done.st (B := T3.setTop (mkF m 49 #[.val (.int x0), .val (.int ch), .val (.int (ch ||| (32 : Int32))), .val (.int (0 : Int32))] [(.int (0 : Int32))])) (fun _ k => XS.iconst X3.here hx rfl (hb hby at_48) k) ?_
            exact absurd (own_law ch hlo hhi) (by simp_all)
        · refine Done.st (B := s₁.setTop (mkF m 30 #[.val (.int x0), .val (.int ch), .val (.int (ch ||| (32 : Int32))), .unset] [])) (fun _ k => XS.icmpNo X0.here hx rfl (hb hby at_27) rfl (flt hc27).2.2.1 k) ?_
          refine Done.st (B := s₁.setTop (mkF m 31 #[.val (.int x0), .val (.int ch), .val (.int (ch ||| (32 : Int32))), .unset] [(.int (1 : Int32))])) (fun _ k => XS.iconst X0.here hx rfl (hb hby at_30) k) ?_
          refine Done.st (B := s₁.setTop (mkF m 35 #[.val (.int x0), .val (.int ch), .val (.int (ch ||| (32 : Int32))), .unset] [(.int (1 : Int32))])) (fun _ k => XS.goto X0.here hx rfl (pc0 := 31) (pc' := 35) rfl (hb hby at_31) (by decide) (by decide) k) ?_
          refine Done.st (B := s₁.setTop (mkF m 36 #[.val (.int x0), .val (.int ch), .val (.int (ch ||| (32 : Int32))), .val (.int (1 : Int32))] [])) (fun _ k => XS.istoreN X0.here hx rfl (hb hby at_35) rfl (l' := #[.val (.int x0), .val (.int ch), .val (.int (ch ||| (32 : Int32))), .val (.int (1 : Int32))]) rfl k) ?_
          refine Done.st (B := s₁.setTop (mkF m 37 #[.val (.int x0), .val (.int ch), .val (.int (ch ||| (32 : Int32))), .val (.int (1 : Int32))] [(.int ch)])) (fun _ k => XS.iloadN X0.here hx rfl (hb hby at_36) rfl k) ?_
          obtain ⟨_, _, ⟨T5, L5, k5, n5⟩, -, X5, ⟨Lc5, hQ5, l5, y5, z5⟩, st5⟩ := Jvm.LawKit.callS X0 hx (y := (⟨"com/example/nameward/nameward/util/Ascii", "isUpperCase", "(C)Z"⟩ : MethodName)) hown (mvT hZ (hw _ (List.mem_of_getElem? (i := 1) rfl))) (mvT hZ (hw _ (List.mem_of_getElem? (i := 2) rfl))) (mvT hZ (hw _ (List.mem_of_getElem? (i := 3) rfl))) (mvT hZ (hw _ (List.mem_of_getElem? (i := 4) rfl))) (by decide) (backOf (W := 0) (rm1 l Z a0 hw [] ch h0 n0 Z0) hZ (hw _ (List.mem_of_getElem? (i := 4) rfl)) (hw _ (List.mem_of_getElem? (i := 3) rfl)) (by decide) (by decide)) (g := (mkF m 37 #[.val (.int x0), .val (.int ch), .val (.int (ch ||| (32 : Int32))), .val (.int (1 : Int32))] [(.int ch)])) rfl (by rw [hml]; rfl) (argsL := [(.int ch)]) (rest := []) (lenOf pd_0 rfl) rfl (by show 2 * 0 + _ ≤ _; exact Nat.le_of_eq rfl) (hb hby at_37) (fun _ _ => ⟨rfl, e0, (by decide : 0 + 0 ≤ _), (by decide : 0 + 0 ≤ _)⟩)
          dsimp only [Pt.U, Pt.locs, Pt.cells, Pt.slots] at X5 l5 y5 z5 st5 hQ5
          subst l5 y5 z5
          obtain ⟨rfl, N5q, e5⟩ := hQ5
          have N5 := Fr.app N0 N5q
          refine Done.st (B := T5.setTop (mkF m 40 #[.val (.int x0), .val (.int ch), .val (.int (ch ||| (32 : Int32))), .val (.int (1 : Int32))] [(.int (own_up ch))])) (fun _ k => st5 _ k) ?_
          refine Done.st (B := T5.setTop (mkF m 41 #[.val (.int x0), .val (.int ch), .val (.int (ch ||| (32 : Int32))), .val (.int (1 : Int32))] [(.int (1 : Int32)), (.int (own_up ch))])) (fun _ k => XS.iloadN X5.here hx rfl (hb hby at_40) rfl k) ?_
          by_cases hc41 : (own_up ch) = (1 : Int32)
          · refine Done.st (B := T5.setTop (mkF m 44 #[.val (.int x0), .val (.int ch), .val (.int (ch ||| (32 : Int32))), .val (.int (1 : Int32))] [])) (fun _ k => XS.icmpNo X5.here hx rfl (hb hby at_41) rfl (teq hc41).2 k) ?_
            refine Done.st (B := T5.setTop (mkF m 45 #[.val (.int x0), .val (.int ch), .val (.int (ch ||| (32 : Int32))), .val (.int (1 : Int32))] [(.int (1 : Int32))])) (fun _ k => XS.iconst X5.here hx rfl (hb hby at_44) k) ?_
            refine Done.st (B := T5.setTop (mkF m 49 #[.val (.int x0), .val (.int ch), .val (.int (ch ||| (32 : Int32))), .val (.int (1 : Int32))] [(.int (1 : Int32))])) (fun _ k => XS.goto X5.here hx rfl (pc0 := 45) (pc' := 49) rfl (hb hby at_45) (by decide) (by decide) k) ?_
            obtain ⟨fs, hr, hrun, hended, hW, hsame⟩ := X5.leave (v := some (.int (1 : Int32))) (fun h => by rw [Bd.returns] at h; cases h)
            refine Done.fin (retN X5 hx (t := .boolean) Bd.returns (by simp) (hb hby at_49) hr) hrun hended ⟨_, _, rfl, ?_, ⟨_, rfl⟩, hW, hsame.mono (by decide) (by decide)⟩
            show Qrm0 Z x0 h0 n0 _ T5.heap _
            rw [e5]
            exact ⟨rfl, N5⟩
          · refine Done.st (B := T5.setTop (mkF m 48 #[.val (.int x0), .val (.int ch), .val (.int (ch ||| (32 : Int32))), .val (.int (1 : Int32))] [])) (fun _ k => XS.icmpYes X5.here hx rfl (pc0 := 41) (pc' := 48) rfl (hb hby at_41) rfl (feq hc41).2 (by decide) (by decide) k) ?_
            refine Done.st (B := T5.setTop (mkF m 49 #[.val (.int x0), .val (.int ch), .val (.int (ch ||| (32 : Int32))), .val (.int (1 : Int32))] [(.int (0 : Int32))])) (fun _ k => XS.iconst X5.here hx rfl (hb hby at_48) k) ?_
            exact absurd (own_law ch hlo hhi) (by simp_all)
    · refine Done.st (B := s₁.setTop (mkF m 34 #[.val (.int x0), .val (.int ch), .val (.int (ch ||| (32 : Int32))), .unset] [])) (fun _ k => XS.ifYes X0.here hx rfl (pc0 := 15) (pc' := 34) rfl (hb hby at_15) rfl ((if0 _ _).trans (feq hc15).2) (by decide) (by decide) k) ?_
      refine Done.st (B := s₁.setTop (mkF m 35 #[.val (.int x0), .val (.int ch), .val (.int (ch ||| (32 : Int32))), .unset] [(.int (0 : Int32))])) (fun _ k => XS.iconst X0.here hx rfl (hb hby at_34) k) ?_
      refine Done.st (B := s₁.setTop (mkF m 36 #[.val (.int x0), .val (.int ch), .val (.int (ch ||| (32 : Int32))), .val (.int (0 : Int32))] [])) (fun _ k => XS.istoreN X0.here hx rfl (hb hby at_35) rfl (l' := #[.val (.int x0), .val (.int ch), .val (.int (ch ||| (32 : Int32))), .val (.int (0 : Int32))]) rfl k) ?_
      refine Done.st (B := s₁.setTop (mkF m 37 #[.val (.int x0), .val (.int ch), .val (.int (ch ||| (32 : Int32))), .val (.int (0 : Int32))] [(.int ch)])) (fun _ k => XS.iloadN X0.here hx rfl (hb hby at_36) rfl k) ?_
      obtain ⟨_, _, ⟨T7, L7, k7, n7⟩, -, X7, ⟨Lc7, hQ7, l7, y7, z7⟩, st7⟩ := Jvm.LawKit.callS X0 hx (y := (⟨"com/example/nameward/nameward/util/Ascii", "isUpperCase", "(C)Z"⟩ : MethodName)) hown (mvT hZ (hw _ (List.mem_of_getElem? (i := 1) rfl))) (mvT hZ (hw _ (List.mem_of_getElem? (i := 2) rfl))) (mvT hZ (hw _ (List.mem_of_getElem? (i := 3) rfl))) (mvT hZ (hw _ (List.mem_of_getElem? (i := 4) rfl))) (by decide) (backOf (W := 0) (rm1 l Z a0 hw [] ch h0 n0 Z0) hZ (hw _ (List.mem_of_getElem? (i := 4) rfl)) (hw _ (List.mem_of_getElem? (i := 3) rfl)) (by decide) (by decide)) (g := (mkF m 37 #[.val (.int x0), .val (.int ch), .val (.int (ch ||| (32 : Int32))), .val (.int (0 : Int32))] [(.int ch)])) rfl (by rw [hml]; rfl) (argsL := [(.int ch)]) (rest := []) (lenOf pd_0 rfl) rfl (by show 2 * 0 + _ ≤ _; exact Nat.le_of_eq rfl) (hb hby at_37) (fun _ _ => ⟨rfl, e0, (by decide : 0 + 0 ≤ _), (by decide : 0 + 0 ≤ _)⟩)
      dsimp only [Pt.U, Pt.locs, Pt.cells, Pt.slots] at X7 l7 y7 z7 st7 hQ7
      subst l7 y7 z7
      obtain ⟨rfl, N7q, e7⟩ := hQ7
      have N7 := Fr.app N0 N7q
      refine Done.st (B := T7.setTop (mkF m 40 #[.val (.int x0), .val (.int ch), .val (.int (ch ||| (32 : Int32))), .val (.int (0 : Int32))] [(.int (own_up ch))])) (fun _ k => st7 _ k) ?_
      refine Done.st (B := T7.setTop (mkF m 41 #[.val (.int x0), .val (.int ch), .val (.int (ch ||| (32 : Int32))), .val (.int (0 : Int32))] [(.int (0 : Int32)), (.int (own_up ch))])) (fun _ k => XS.iloadN X7.here hx rfl (hb hby at_40) rfl k) ?_
      by_cases hc41 : (own_up ch) = (0 : Int32)
      · refine Done.st (B := T7.setTop (mkF m 44 #[.val (.int x0), .val (.int ch), .val (.int (ch ||| (32 : Int32))), .val (.int (0 : Int32))] [])) (fun _ k => XS.icmpNo X7.here hx rfl (hb hby at_41) rfl (teq hc41).2 k) ?_
        refine Done.st (B := T7.setTop (mkF m 45 #[.val (.int x0), .val (.int ch), .val (.int (ch ||| (32 : Int32))), .val (.int (0 : Int32))] [(.int (1 : Int32))])) (fun _ k => XS.iconst X7.here hx rfl (hb hby at_44) k) ?_
        refine Done.st (B := T7.setTop (mkF m 49 #[.val (.int x0), .val (.int ch), .val (.int (ch ||| (32 : Int32))), .val (.int (0 : Int32))] [(.int (1 : Int32))])) (fun _ k => XS.goto X7.here hx rfl (pc0 := 45) (pc' := 49) rfl (hb hby at_45) (by decide) (by decide) k) ?_
        obtain ⟨fs, hr, hrun, hended, hW, hsame⟩ := X7.leave (v := some (.int (1 : Int32))) (fun h => by rw [Bd.returns] at h; cases h)
        refine Done.fin (retN X7 hx (t := .boolean) Bd.returns (by simp) (hb hby at_49) hr) hrun hended ⟨_, _, rfl, ?_, ⟨_, rfl⟩, hW, hsame.mono (by decide) (by decide)⟩
        show Qrm0 Z x0 h0 n0 _ T7.heap _
        rw [e7]
        exact ⟨rfl, N7⟩
      · refine Done.st (B := T7.setTop (mkF m 48 #[.val (.int x0), .val (.int ch), .val (.int (ch ||| (32 : Int32))), .val (.int (0 : Int32))] [])) (fun _ k => XS.icmpYes X7.here hx rfl (pc0 := 41) (pc' := 48) rfl (hb hby at_41) rfl (feq hc41).2 (by decide) (by decide) k) ?_
        refine Done.st (B := T7.setTop (mkF m 49 #[.val (.int x0), .val (.int ch), .val (.int (ch ||| (32 : Int32))), .val (.int (0 : Int32))] [(.int (0 : Int32))])) (fun _ k => XS.iconst X7.here hx rfl (hb hby at_48) k) ?_
        exact absurd (own_law ch hlo hhi) (by simp_all)
  refine Done.st (B := s₁.setTop (mkF m 6 #[.val (.int x0), .val (.int ((x0 &&& (65535 : Int32)).toUInt32.toUInt16.toUInt32.toInt32)), .unset, .unset] [])) (fun _ k => XS.istoreN X0.here hx rfl (hb hby at_5) rfl (l' := #[.val (.int x0), .val (.int ((x0 &&& (65535 : Int32)).toUInt32.toUInt16.toUInt32.toInt32)), .unset, .unset]) rfl k) ?_
  exact j6 ((x0 &&& (65535 : Int32)).toUInt32.toUInt16.toUInt32.toInt32) (c_i2c _).2.1 (c_i2c _).2.2
set_option maxRecDepth 65536 in
set_option maxHeartbeats 40000000 in
theorem comes_1 {Post : Tables → Env → Array Value → State → Outcome → State → Prop} (hpost : ∀ tb e args s v u, (limb_1_1.after args s (.returned v) u = true ∧ limb_1_2.after args s (.returned v) u = true ∧ True) → FrameEnd s (.returned v) u (Jvm.fieldLocs frame_1_writes args s ++ Jvm.arrayLocs frame_1_arrays args s ++ Jvm.staticLocs frame_1_statics s) 0 0 → Post tb e args s (.returned v) u) :
    ArmFor flags0 classFile x code maxLocals ret World_1 tables_1 room_1 Calls_1 rest_1 Pre_1 Post := by
  intro l hfl _ _ p e ha hc hk s m args below hf hA hF happ hP
  obtain ⟨hcalls, hrest, hpre⟩ := hP
  obtain ⟨-, -, -, hnamed, -, -, -, hat⟩ := (Spec.applies_iff hf).mp happ
  obtain ⟨hg, hn⟩ := and_e (Cond.before_iff.mp (show (Jvm.Cond.and given_1 narrow_1).before args s = true from hpre))
  obtain ⟨g1, g2⟩ := and_e hg
  obtain ⟨w0, rfl⟩ : ∃ w0 : Value, args = #[w0] := by
    have hs : args.size = 1 := by simpa [Cond.value, given_1] using g1
    obtain ⟨L⟩ := args
    match L, hs with
    | [w0], _ => exact ⟨w0, rfl⟩
  have hw := fun d (hd : d ∈ tables_1) => atoms_spec (ws := Jvm.Cond.code x code maxLocals ret :: tables_1) hat d (List.mem_cons_of_mem _ hd)
  have hfit : Fit s := fun {y c} hc i hi => by
    obtain ⟨ha, rfl⟩ := Array.getElem?_eq_some_iff.mp hc
    have q := List.all_eq_true.mp ((Array.all_eq_true_iff_forall_mem.mp hF) _ (Array.getElem_mem ha)) i (List.mem_range.mpr hi)
    simpa [Array.getElem?_eq_getElem hi] using q
  obtain ⟨i0, ei0⟩ := is_v g2
  obtain rfl : w0 = (.int i0) := Option.some.inj ei0
  obtain ⟨n, o, h1, h2, h3, _, L, rfl, ⟨rfl, N⟩, hq⟩ := rm0 l s _ hw tables_1 i0 s.heap s.heap.size (Nat.le_refl _)  p e ha hc hk s m _ below hf ((Spec.applies_iff_loose hf).mp happ).1 ⟨rfl, State.Warmed39.refl s, rfl⟩ trivial
  refine ⟨n, _, h1, h2, h3, hpost _ _ _ _ _ _ ⟨Cond.after_iff.mpr rfl, Cond.after_iff.mpr (eq_i res_at (Term.int_eval (1)) rfl), trivial⟩ ⟨hq.1, hq.2.1, (hq.2.2.sift fun y hy => Or.inr (N y hy)).mono (by decide) (by decide)⟩⟩
theorem main_1_1 : Claimed_1_1 := comes_1 fun _ _ _ _ _ _ h hF => ⟨h.1, hF⟩
theorem main_1_2 : Claimed_1_2 := comes_1 fun _ _ _ _ _ _ h hF => ⟨h.2.1, hF⟩
end Jvm.Pilot.@@N@@
namespace Jvm.Pilot.@@N@@
open Jvm Jvm.ClassFile Sem Op Lib Jvm.Free Jvm.Stand Jvm.Pilot.@@N@@.Jvm.D
/-! MADE BY PROGRAM (witnessworld.py) out of the Statement's table words and the real class files: 9 classes; the members and pool entries that the words name. The judged class is class 1, her method 1. -/
namespace start1
open Jvm.ClassFile
def u (s : String) : CpInfo := .utf8 (stringToUtf16 s)
/-- a pool by its gaps: so many unusable entries, then the entry; so many at the end -/
def gap : Nat → List CpInfo → List CpInfo
  | 0, r => r
  | n + 1, r => .unusable :: gap n r
def poolList (es : List (Nat × CpInfo)) (last : Nat) : List CpInfo := es.foldr (fun e r => gap e.1 (e.2 :: r)) (gap last [])
def pool (es : List (Nat × CpInfo)) (last : Nat) : Array CpInfo := ⟨poolList es last⟩
def fileOf (pool : Array CpInfo) (this : Nat) (attrs : Array Attribute := #[]) (ms : Array MethodInfo := #[]) (fl : Nat := 33) (sup : Nat := 0) (ifs : Array Nat := #[]) (fds : Array FieldInfo := #[]) : ClassFile where
  minorVersion := 0
  majorVersion := 65
  constantPool := pool
  accessFlags := fl
  thisClass := this
  superClass := sup
  interfaces := ifs
  fields := fds
  methods := ms
  attributes := attrs
def plain (name : String) (sup : Option ClassId) : Class where
  name := name
  kind := .ordinary
  loader := none
  accessFlags := 33
  super := sup
  interfaces := #[]
  cf := none
  fields := #[]
  methods := #[]
  instanceTypes := #[]
  staticTypes := #[]
  resolved := #[]
  callSites := []
  init := .initialized
  statics := none
  mirror := none

def pool0 : Array CpInfo := pool [(5, u "<init>"), (0, u "()V"), (1, .class_ 10), (1, u "java/lang/Object")] 113

def k0m0 : Method := { name := "<init>", desc := "()V", sig := { parameters := [], returnType := none }, accessFlags := 1, code := none }
/-- java/lang/Object -/
def k0 : Class := { plain "java/lang/Object" none with
  accessFlags := 33
  interfaces := #[]
  cf := some (fileOf pool0 8 #[] #[{ accessFlags := 1, nameIndex := 5, descriptorIndex := 6, attributes := #[] }] 33 0 #[] #[])
  fields := #[]
  methods := #[k0m0]
  instanceTypes := #[]
  staticTypes := #[]
  resolved := Array.replicate 124 none
  statics := none }

def pool1 : Array CpInfo := pool [(2, .class_ 4), (1, u "java/lang/Object"), (0, u "<init>"), (0, u "()V"), (0, .integer 65535), (0, .methodref 9 10), (0, .class_ 11), (0, .nameAndType 12 13), (0, u "com/example/nameward/nameward/util/Ascii"), (0, u "isUpperCase"), (0, u "(C)Z"), (0, .class_ 15), (0, u "com/example/nameward/nameward/util/AsciiIsUpperCasePinLaw"), (2, u "law"), (0, u "(I)Z")] 3

def k1m0 : Method := { name := "<init>", desc := "()V", sig := { parameters := [], returnType := none }, accessFlags := 2, code := none }
def k1c1 : Code := { maxStack := 2, maxLocals := 4, code := code, exceptionTable := #[], attributes := #[] }
def k1m1 : Method := { name := "law", desc := "(I)Z", sig := { parameters := [.int], returnType := some .boolean }, accessFlags := 9, code := some k1c1 }
/-- com/example/nameward/nameward/util/AsciiIsUpperCasePinLaw -/
def k1 : Class := { plain "com/example/nameward/nameward/util/AsciiIsUpperCasePinLaw" (some 0) with
  accessFlags := 49
  interfaces := #[]
  cf := some (fileOf pool1 14 #[] #[{ accessFlags := 2, nameIndex := 5, descriptorIndex := 6, attributes := #[] }, { accessFlags := 9, nameIndex := 18, descriptorIndex := 19, attributes := #[] }] 49 2 #[] #[])
  fields := #[]
  methods := #[k1m0, k1m1]
  instanceTypes := #[]
  staticTypes := #[]
  resolved := Array.replicate 23 none
  statics := none }

def pool2 : Array CpInfo := pool [(2, .class_ 4), (1, u "java/lang/Object"), (0, u "<init>"), (0, u "()V"), (11, .class_ 20), (1, u "com/example/nameward/nameward/util/Ascii"), (0, u "isUpperCase"), (0, u "(C)Z")] 16

def k2m0 : Method := { name := "<init>", desc := "()V", sig := { parameters := [], returnType := none }, accessFlags := 2, code := none }
def k2c1 : Code := { maxStack := 2, maxLocals := 1, code := prog_45_method_3_code, exceptionTable := #[], attributes := #[] }
def k2m1 : Method := { name := "isUpperCase", desc := "(C)Z", sig := { parameters := [.char], returnType := some .boolean }, accessFlags := 9, code := some k2c1 }
/-- com/example/nameward/nameward/util/Ascii -/
def k2 : Class := { plain "com/example/nameward/nameward/util/Ascii" (some 0) with
  accessFlags := 49
  interfaces := #[]
  cf := some (fileOf pool2 18 #[] #[{ accessFlags := 2, nameIndex := 5, descriptorIndex := 6, attributes := #[] }, { accessFlags := 9, nameIndex := 21, descriptorIndex := 22, attributes := #[] }] 49 2 #[] #[])
  fields := #[]
  methods := #[k2m0, k2m1]
  instanceTypes := #[]
  staticTypes := #[]
  resolved := Array.replicate 39 none
  statics := none }

def pool3 : Array CpInfo := pool [(1, u "java/lang/Cloneable"), (0, .class_ 1), (0, u "java/lang/Object"), (0, .class_ 3)] 3

/-- java/lang/Cloneable -/
def k3 : Class := { plain "java/lang/Cloneable" (some 0) with
  accessFlags := 1537
  interfaces := #[]
  cf := some (fileOf pool3 2 #[] #[] 1537 4 #[] #[])
  fields := #[]
  methods := #[]
  instanceTypes := #[]
  staticTypes := #[]
  resolved := Array.replicate 8 none
  statics := none }

def pool4 : Array CpInfo := pool [(1, u "java/io/Serializable"), (0, .class_ 1), (0, u "java/lang/Object"), (0, .class_ 3)] 3

/-- java/io/Serializable -/
def k4 : Class := { plain "java/io/Serializable" (some 0) with
  accessFlags := 1537
  interfaces := #[]
  cf := some (fileOf pool4 2 #[] #[] 1537 4 #[] #[])
  fields := #[]
  methods := #[]
  instanceTypes := #[]
  staticTypes := #[]
  resolved := Array.replicate 8 none
  statics := none }

/-- the primitive byte -/
def k5 : Class := { plain "byte" none with kind := .primitive 'B', accessFlags := 0x411 }
/-- [B -/
def k6 : Class := { plain "[B" (some 0) with kind := .array 5 .byte, interfaces := #[3, 4], accessFlags := 1041 }

/-- the primitive int -/
def k7 : Class := { plain "int" none with kind := .primitive 'I', accessFlags := 0x411 }
/-- [I -/
def k8 : Class := { plain "[I" (some 0) with kind := .array 7 .int, interfaces := #[3, 4], accessFlags := 1041 }

def heap : Heap := #[]
def classes : Array Class := #[k0, k1, k2, k3, k4, k5, k6, k7, k8]
def interned : List (Array UInt16 × Addr) := []
def slotsUsed : Nat := 0
def theMethod : MethodId := ⟨1, 1⟩
def args0 : Array Value := #[.int 5]
def aboutOver (below : List Frame) : State where
  vm := { classes := classes, interned := interned.toArray }
  heap := heap
  slotsUsed := slotsUsed
  threads := #[{ frames := .invoking theMethod args0 :: below }]
def below0 : List Frame := [.native { method := ⟨0, 0⟩, args := #[] }]
def about1 : State := aboutOver below0
def p0 : Program := .bare "" "" ""
def e0 : Env := launch0.env 0 0 0
theorem w_frames : about1.frames = Frame.invoking theMethod args0 :: below0 := rfl
set_option maxRecDepth 65536 in
theorem w_args : argsFit about1.vm theMethod args0 = true := by decide +kernel
set_option maxRecDepth 65536 in
theorem w_heap : heapFits about1 = true := by decide +kernel
set_option maxRecDepth 65536 in
theorem w_runnable : about1.curStatus? = some .runnable := by decide +kernel
set_option maxRecDepth 65536 in
theorem w_alone : about1.alone = true := by decide +kernel
set_option maxRecDepth 65536 in
theorem w_named : about1.methodNamed? x = some theMethod := by decide +kernel
set_option maxRecDepth 65536 in
theorem w_hears : about1.hears theMethod below0 = true := by decide +kernel
set_option maxRecDepth 65536 in
theorem w_ripe : about1.ripe theMethod args0 below0 = true := by decide +kernel
theorem w_running : about1.status = .running := rfl
set_option maxRecDepth 65536 in
theorem w_room : about1.hasRoom e0.platform room_1 = true :=
  launch0.hasRoom_least _ room_1 (by decide +kernel) (by decide +kernel) (by decide +kernel) (by decide +kernel) (by decide +kernel) (by decide +kernel)
theorem allAtoms_all (ts : List Jvm.Cond) (a : Array Jvm.Value) (st : Jvm.State) : (allAtoms ts).before a st = ts.all (fun c => c.before a st) := by
  induction ts with
  | nil => rfl
  | cons c t ih =>
    show (Jvm.Cond.and c (allAtoms t)).before a st = _
    rw [Jvm.Cond.before_and, ih, List.all_cons]
def words1 : List Jvm.Cond := Jvm.Cond.code x code maxLocals ret :: tables_1
/-- a 'code' word, met by the world's own term for the bytes: nothing is compared byte by byte -/
theorem code_word {y : MethodName} {bytes : ByteArray} {mx : Nat} {rt : Option FieldType} {a : Array Value} {s : State} {m : MethodId} {meth : Method} {c : Code} (h1 : s.methodNamed? y = some m) (h2 : s.vm.method? m = some meth) (h3 : meth.code = some c) (h4 : c.code = bytes)
    (h5 : (c.maxLocals == mx && c.exceptionTable.isEmpty && decide (c.maxStack ≤ mostOperands) && decide (meth.sig.returnType = rt) && !meth.locks && decide (parseMethodDescriptor y.desc = some meth.sig)) = true) : (Jvm.Cond.code y bytes mx rt).before a s = true := by
  simp only [Bool.and_eq_true, beq_iff_eq, Bool.not_eq_true', decide_eq_true_eq] at h5
  obtain ⟨⟨⟨⟨⟨g1, g2⟩, g3⟩, g4⟩, g5⟩, g6⟩ := h5
  simp [Cond.before, Cond.holds, Cond.value, h1, h2, h3, h4, g1, g2, g3, g4, g5, g6]
def isCode : Jvm.Cond → Bool
  | .code _ _ _ _ => true
  | _ => false
theorem all_split {L : List Jvm.Cond} {P : Jvm.Cond → Bool} (h1 : L.all (fun c => isCode c || P c) = true) (h2 : ∀ c ∈ L.filter isCode, P c = true) : L.all P = true := by
  refine List.all_eq_true.mpr fun c hc => ?_
  have h := List.all_eq_true.mp h1 c hc
  rcases Bool.eq_false_or_eq_true (isCode c) with hi | hi
  · exact h2 c (List.mem_filter.mpr ⟨hc, hi⟩)
  · simpa [hi] using h
set_option maxRecDepth 65536 in
theorem w_c0 : (Jvm.Cond.code x code maxLocals ret).before args0 about1 = true := code_word (m := ⟨1, 1⟩) (meth := k1m1) (c := k1c1) (by decide +kernel) rfl rfl rfl (by decide +kernel)
set_option maxRecDepth 65536 in
theorem w_c1 : (Jvm.Cond.code ({ cls := "com/example/nameward/nameward/util/Ascii", name := "isUpperCase", desc := "(C)Z" } : Jvm.MethodName) prog_45_method_3_code (1 : Nat) (Option.some Jvm.ClassFile.FieldType.boolean)).before args0 about1 = true := code_word (m := ⟨2, 1⟩) (meth := k2m1) (c := k2c1) (by decide +kernel) rfl rfl rfl (by decide +kernel)
def codes1 : List Jvm.Cond := [Jvm.Cond.code x code maxLocals ret, Jvm.Cond.code ({ cls := "com/example/nameward/nameward/util/Ascii", name := "isUpperCase", desc := "(C)Z" } : Jvm.MethodName) prog_45_method_3_code (1 : Nat) (Option.some Jvm.ClassFile.FieldType.boolean)]
set_option maxRecDepth 65536 in
theorem codes_eq : words1.filter isCode = codes1 := rfl
theorem w_codes : ∀ c ∈ words1.filter isCode, c.before args0 about1 = true := by
  rw [codes_eq]
  intro c hc
  simp only [codes1, List.mem_cons, List.not_mem_nil, or_false] at hc
  rcases hc with rfl | rfl
  · exact w_c0
  · exact w_c1
set_option maxRecDepth 65536 in
theorem w_t1 : words1.all (fun c => isCode c || c.before args0 about1) = true := by decide +kernel
theorem w_tables : (allAtoms (Jvm.Cond.code x code maxLocals ret :: tables_1)).before args0 about1 = true := by
  rw [allAtoms_all]
  show words1.all (fun c => c.before args0 about1) = true
  refine all_split ?_ w_codes
  rw [w_t1]
set_option maxRecDepth 65536 in
theorem w_case : (Jvm.Cond.and given_1 narrow_1).before args0 about1 = true := by decide +kernel
theorem w_applies : (headSpec (Jvm.Cond.code x code maxLocals ret :: tables_1) room_1).applies x e0.platform about1 = true :=
  (Spec.applies_iff w_frames).mpr ⟨w_running, w_runnable, w_alone, w_named, w_hears, w_ripe, w_room, w_tables⟩
theorem atStart : AtStart classFile x code maxLocals ret World_1 tables_1 room_1 Calls_1 rest_1 Pre_1 launch0 p0 e0 about1 theMethod args0 below0 :=
  ⟨lists_1, trivial, launch0.admits_env _ _ _, launch0.least_env, fairChoices_fair.cas, fairChoices_fair.clock, w_frames, w_args, w_heap, w_applies, trivial, trivial, w_case⟩
end start1
theorem witness_1 : WitnessClaimed_1 := ⟨start1.p0, start1.e0, start1.about1, start1.theMethod, start1.args0, start1.below0, start1.atStart⟩
end Jvm.Pilot.@@N@@
