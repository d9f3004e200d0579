import JvmDerived
import JvmDerived.Pilot.@@N@@Statement
import JvmDerived.Pilot.@@N@@Code
set_option linter.unusedVariables false
set_option linter.unusedSimpArgs false
namespace Jvm.RoadKit
open Sem ClassFile Op Lib Jvm.Stand Jvm.Free Jvm.LawKit
section New
variable {p : Program} {l : Launch} {e : Env} {R : Room} {s : State} {m : MethodId} {args : Array Value} {below : List Frame} {meth : Method} {c : Code} {T : State} {locs : List Loc} {cells slots : Nat}
theorem retI (X : Stand p l e R s m args below meth c T locs cells slots) (hx : p.tables.exec = Jvm.exec) {pc : Nat} {Ls : Array Slot} {z : Int32} {rest : List Value} (hret : meth.sig.returnType = some .int) (hd : decode c.code pc = .ok (.ireturn, 1)) {fs : List Frame}
    (hl : ∀ (f : JFrame) (acts : List Action), f.method = m → f.locked = none → f.entered = [] → (doReturn e (T.setTop f) acts (some (.int z))).1 = T.setFrames fs) : Steps p.tables e below (T.setTop (mkF m pc Ls (.int z :: rest))) (T.setFrames fs) :=
  retOut X hx hret rfl (Or.inl ⟨rfl, Or.inl rfl, _, rfl⟩) hd hl
theorem retJ (X : Stand p l e R s m args below meth c T locs cells slots) (hx : p.tables.exec = Jvm.exec) {pc : Nat} {Ls : Array Slot} {z : Int64} {rest : List Value} (hret : meth.sig.returnType = some .long) (hd : decode c.code pc = .ok (.lreturn, 1)) {fs : List Frame}
    (hl : ∀ (f : JFrame) (acts : List Action), f.method = m → f.locked = none → f.entered = [] → (doReturn e (T.setTop f) acts (some (.long z))).1 = T.setFrames fs) : Steps p.tables e below (T.setTop (mkF m pc Ls (.long z :: rest))) (T.setFrames fs) :=
  retOut X hx hret rfl (Or.inr (Or.inl ⟨rfl, rfl, _, rfl⟩)) hd hl
theorem retR (X : Stand p l e R s m args below meth c T locs cells slots) (hx : p.tables.exec = Jvm.exec) {pc : Nat} {Ls : Array Slot} {w : Value} {t : FieldType} {rest : List Value} (hret : meth.sig.returnType = some t) (ht : t.isReference = true) (hv : w.isRef = true) (hd : decode c.code pc = .ok (.areturn, 1)) {fs : List Frame}
    (hl : ∀ (f : JFrame) (acts : List Action), f.method = m → f.locked = none → f.entered = [] → (doReturn e (T.setTop f) acts (some w)).1 = T.setFrames fs) : Steps p.tables e below (T.setTop (mkF m pc Ls (w :: rest))) (T.setFrames fs) :=
  retOut X hx hret (by cases t <;> simp_all [narrow, FieldType.isReference]) (Or.inr (Or.inr (Or.inr (Or.inr ⟨rfl, ht, hv⟩)))) hd hl
end New
end Jvm.RoadKit
namespace Jvm.Pilot.@@N@@
open Jvm Jvm.ClassFile Sem Op Lib Jvm.Free Jvm.Stand Jvm.LawKit Jvm.RoadKit Bundle Jvm.Pilot.@@N@@.Jvm.D
def Done (p : Program) (e : Env) (below : List Frame) (P : State → Outcome → Prop) (A : State) : Prop := ∃ s₂ o, Steps p.tables e below A s₂ ∧ s₂.status = .running ∧ Ended s₂ below o ∧ P s₂ o
theorem Done.st {p : Program} {e : Env} {below : List Frame} {P : State → Outcome → Prop} {A B : State} (k : ∀ t, Steps p.tables e below B t → Steps p.tables e below A t) (h : Done p e below P B) : Done p e below P A := by
  obtain ⟨s₂, o, h1, h2⟩ := h; exact ⟨s₂, o, k _ h1, h2⟩
theorem Done.fin {p : Program} {e : Env} {below : List Frame} {P : State → Outcome → Prop} {A U : State} {o : Outcome} (k : Steps p.tables e below A U) (h1 : U.status = .running) (h2 : Ended U below o) (h3 : P U o) : Done p e below P A := ⟨U, o, k, h1, h2, h3⟩
theorem d1_0 : decode prog_29_method_5_code 0 = .ok (.iload_n 1, 1) := by decide +kernel
theorem d1_1 : decode prog_29_method_5_code 1 = .ok (.aload_n 0, 1) := by decide +kernel
theorem d1_2 : decode prog_29_method_5_code 2 = .ok (.getfield 39, 3) := by decide +kernel
theorem d1_5 : decode prog_29_method_5_code 5 = .ok (.if_icmp .lt 19, 3) := by decide +kernel
theorem d1_8 : decode prog_29_method_5_code 8 = .ok (.aload_n 0, 1) := by decide +kernel
theorem d1_9 : decode prog_29_method_5_code 9 = .ok (.getfield 35, 3) := by decide +kernel
theorem d1_12 : decode prog_29_method_5_code 12 = .ok (.ifCond .ne 8, 3) := by decide +kernel
theorem d1_15 : decode prog_29_method_5_code 15 = .ok (.iload_n 1, 1) := by decide +kernel
theorem d1_16 : decode prog_29_method_5_code 16 = .ok (.iconst 1, 1) := by decide +kernel
theorem d1_17 : decode prog_29_method_5_code 17 = .ok (.if_icmp .gt 7, 3) := by decide +kernel
theorem d1_20 : decode prog_29_method_5_code 20 = .ok (.iconst 1, 1) := by decide +kernel
theorem d1_21 : decode prog_29_method_5_code 21 = .ok (.goto 4, 3) := by decide +kernel
theorem d1_24 : decode prog_29_method_5_code 24 = .ok (.iconst 0, 1) := by decide +kernel
theorem d1_25 : decode prog_29_method_5_code 25 = .ok (.ireturn, 1) := by decide +kernel
theorem pn_0 : plainName "com/example/nameward/nameward/model/Shape" = true := by first | (simp [plainName, overriddenIn]; done) | decide +kernel
theorem pn_1 : plainName "com/example/nameward/nameward/model/ShapeFitsPinLaw" = true := by first | (simp [plainName, overriddenIn]; done) | decide +kernel
theorem pd_0 : parseMethodDescriptor "(I)Z" = some ⟨[.int], some .boolean⟩ := by decide +kernel
theorem own_eqv {a b : Term} {args : Array Value} {f s : State} {o : Option Outcome} {idx : List Nat} (h : (Cond.eq a b).value args f o s idx = some true) {v : Value} (hb : b.eval args f o idx s = some v) : a.eval args f o idx s = some v := by
  simp only [Cond.value] at h
  rw [hb] at h
  cases ha : a.eval args f o idx s with
  | none => rw [ha] at h; simp at h
  | some x => rw [ha] at h; cases x <;> cases v <;> simp_all

def own_fits (p f z : Int32) : Int32 := if p < f then 0 else if z = 0 then (if 1 < p then 0 else 1) else 1
theorem own_i1 (p : Int32) : (p = 1) ↔ p.toInt = 1 := ⟨fun h => by rw [h]; rfl, fun h => Int32.toInt_inj.mp (by rw [h]; rfl)⟩
theorem own_i0 (p : Int32) : (p = 0) ↔ p.toInt = 0 := ⟨fun h => by rw [h]; rfl, fun h => Int32.toInt_inj.mp (by rw [h]; rfl)⟩
theorem own_k1 : (1 : Int32).toInt = 1 := rfl
theorem own_k0 : (0 : Int32).toInt = 0 := rfl
theorem own_s0 (p : Int32) : own_fits p 1 0 = if p = 1 then 1 else 0 := by
  simp only [own_fits, if_true, Int32.lt_iff_toInt_lt, own_i1, own_k1]
  repeat' split
  all_goals first | rfl | (exfalso; omega)
theorem own_s1 (p : Int32) : own_fits p 0 0 = if p = 0 then 1 else if p = 1 then 1 else 0 := by
  simp only [own_fits, if_true, Int32.lt_iff_toInt_lt, own_i1, own_i0, own_k1, own_k0]
  repeat' split
  all_goals first | rfl | (exfalso; omega)
theorem own_s2 (p : Int32) : own_fits p 1 1 = if 0 < p then 1 else 0 := by
  have : ¬ (1 : Int32) = 0 := by decide
  simp only [own_fits, if_neg this, Int32.lt_iff_toInt_lt, own_k1, own_k0]
  repeat' split
  all_goals first | rfl | (exfalso; omega)
theorem own_s3 (p : Int32) : own_fits p 0 1 = if p < 0 then 0 else 1 := by
  have : ¬ (1 : Int32) = 0 := by decide
  simp only [own_fits, if_neg this]

theorem ef_rm1 (m : MethodId) (a : Addr) (q : Int32) : entryFrame m #[(.ref a), (.int q)] 2 = mkF m 0 #[.val (.ref a), .val (.int q)] [] := by first | (simp [entryFrame, mkF, argsToLocals, Value.category]; done) | rfl
def Qrm1 (Z : State) (a : Addr) (q : Int32) (f : Int32) (z : Int32) (h0 : Heap) (n0 : Nat) (v : Option Value) (h : Heap) (L : List Loc) : Prop := v = some (.int (own_fits q f z)) ∧ Fr n0 L ∧ h = h0
def Prm1 (s : State) (Z : State) (a : Addr) (q : Int32) (f : Int32) (z : Int32) (h0 : Heap) (n0 : Nat) : State → Outcome → Prop := fun U' o => ∃ v L, o = .returned v ∧ Qrm1 Z a q f z h0 n0 v U'.heap L ∧ FrameEnd s o U' L ({ frames := 0, cells := 0, slots := 0, locals := 0 } : Room).cells ({ frames := 0, cells := 0, slots := 0, locals := 0 } : Room).slots
set_option maxRecDepth 65536 in
set_option maxHeartbeats 40000000 in
theorem rm1 (l : Launch) (Z : State) (a0 : Array Value) (hw : ∀ d ∈ tables_1, d.before a0 Z = true) (ws : List Jvm.Cond) (a : Addr) (q : Int32) (f : Int32) (z : Int32) (h0 : Heap) (n0 : Nat) (Z0 : n0 ≤ h0.size) (Ff : Fld Z h0 a "com/example/nameward/nameward/model/Shape" "fewest" "I" (.int f)) (Fz : Fld Z h0 a "com/example/nameward/nameward/model/Shape" "array" "Z" (.int z)) :
    MetFree l (⟨"com/example/nameward/nameward/model/Shape", "fits", "(I)Z"⟩ : MethodName) (head1 (Jvm.Cond.code (⟨"com/example/nameward/nameward/model/Shape", "fits", "(I)Z"⟩ : MethodName) prog_29_method_5_code 2 (some .boolean) :: ws) ({ frames := 0, cells := 0, slots := 0, locals := 0 } : Room)) (fun aa U => aa = #[(.ref a), (.int q)] ∧ Z.Warmed39 U.vm ∧ U.heap = h0) (fun _ _ _ _ _ => True) (fun _ U o U' => ∃ v L, o = .returned v ∧ Qrm1 Z a q f z h0 n0 v U'.heap L ∧ FrameEnd U o U' L ({ frames := 0, cells := 0, slots := 0, locals := 0 } : Room).cells ({ frames := 0, cells := 0, slots := 0, locals := 0 } : Room).slots) := by
  refine MetFree.of_bodySF (plainFor_of_name pn_0) hisR ?_
  intro p e s m args below meth c s₁ Bd hml0 hP hK
  obtain ⟨rfl, hZ, hh⟩ := hP
  have hx := Bd.exec
  have hlk : meth.locks = false := by first | exact BodyLoose.notSynchronized Bd | exact Body.notSynchronized Bd
  have hby := Bd.bytes
  have hml : c.maxLocals = 2 := hml0
  have hown : s.vm.findClass "com/example/nameward/nameward/model/Shape" = some m.cls := findClass_of_methodNamed Bd.named
  have hnm := (name_of_methodNamed Bd.named Bd.method).1
  have X0 : Stand p l e ({ frames := 0, cells := 0, slots := 0, locals := 0 } : Room) s m #[(.ref a), (.int q)] below meth c s₁ [] 0 0 := Stand.of_body Bd
  have e0 : s₁.heap = h0 := by rw [← hh, Bd.state]; rfl
  have N0 := Fr.nil n0
  show Done p e below (Prm1 s Z a q f z h0 n0) (s₁.setTop (entryFrame m #[(.ref a), (.int q)] 2))
  refine Done.st (B := s₁.setTop (mkF m 0 #[.val (.ref a), .val (.int q)] [])) (fun _ k => castTop (ef_rm1 m a q) k) ?_
  refine Done.st (B := s₁.setTop (mkF m 1 #[.val (.ref a), .val (.int q)] [(.int q)])) (fun _ k => XS.iloadN X0.here hx rfl (hb hby d1_0) rfl k) ?_
  refine Done.st (B := s₁.setTop (mkF m 2 #[.val (.ref a), .val (.int q)] [(.ref a), (.int q)])) (fun _ k => XS.aloadN X0.here hx rfl (hb hby d1_1) rfl rfl k) ?_
  obtain ⟨T1, X1, e1, st1⟩ := getF X0 hx hZ hown (host := "") (Or.inl (hw _ (List.mem_of_getElem? (i := 8) rfl))) Via.refl e0 Ff (g := (mkF m 2 #[.val (.ref a), .val (.int q)] [(.ref a), (.int q)])) rfl rfl (hb hby d1_2)
  refine Done.st (B := T1.setTop (mkF m 5 #[.val (.ref a), .val (.int q)] [(.int f), (.int q)])) (fun _ k => st1 _ k) ?_
  by_cases hc5 : q < f
  · refine Done.st (B := T1.setTop (mkF m 24 #[.val (.ref a), .val (.int q)] [])) (fun _ k => XS.icmpYes X1.here hx rfl (pc0 := 5) (pc' := 24) rfl (hb hby d1_5) rfl (tlt hc5).1 (by decide) (by decide) k) ?_
    refine Done.st (B := T1.setTop (mkF m 25 #[.val (.ref a), .val (.int q)] [(.int (0 : Int32))])) (fun _ k => XS.iconst X1.here hx rfl (hb hby d1_24) k) ?_
    obtain ⟨fs, hr, hrun, hended, hW, hsame⟩ := X1.leave (v := some (.int (0 : Int32))) (hlocks := hlk) (fun h => by rw [Bd.returns] at h; cases h)
    refine Done.fin (retN X1 hx (t := .boolean) Bd.returns (by simp) (hb hby d1_25) hr) hrun hended ⟨_, _, rfl, ?_, ⟨_, rfl⟩, hW, hsame.mono (by decide) (by decide)⟩
    show Qrm1 Z a q f z h0 n0 _ T1.heap _
    rw [e1]
    exact ⟨by simp [own_fits, hc5], N0, rfl⟩
  · refine Done.st (B := T1.setTop (mkF m 8 #[.val (.ref a), .val (.int q)] [])) (fun _ k => XS.icmpNo X1.here hx rfl (hb hby d1_5) rfl (flt hc5).1 k) ?_
    refine Done.st (B := T1.setTop (mkF m 9 #[.val (.ref a), .val (.int q)] [(.ref a)])) (fun _ k => XS.aloadN X1.here hx rfl (hb hby d1_8) rfl rfl k) ?_
    obtain ⟨T3, X3, e3, st3⟩ := getF X1 hx hZ hown (host := "") (Or.inl (hw _ (List.mem_of_getElem? (i := 10) rfl))) Via.refl e1 Fz (g := (mkF m 9 #[.val (.ref a), .val (.int q)] [(.ref a)])) rfl rfl (hb hby d1_9)
    refine Done.st (B := T3.setTop (mkF m 12 #[.val (.ref a), .val (.int q)] [(.int z)])) (fun _ k => st3 _ k) ?_
    by_cases hc12 : z = (0 : Int32)
    · refine Done.st (B := T3.setTop (mkF m 15 #[.val (.ref a), .val (.int q)] [])) (fun _ k => XS.ifNo X3.here hx rfl (hb hby d1_12) rfl ((if0 _ _).trans (teq hc12).2) k) ?_
      refine Done.st (B := T3.setTop (mkF m 16 #[.val (.ref a), .val (.int q)] [(.int q)])) (fun _ k => XS.iloadN X3.here hx rfl (hb hby d1_15) rfl k) ?_
      refine Done.st (B := T3.setTop (mkF m 17 #[.val (.ref a), .val (.int q)] [(.int (1 : Int32)), (.int q)])) (fun _ k => XS.iconst X3.here hx rfl (hb hby d1_16) k) ?_
      by_cases hc17 : (1 : Int32) < q
      · refine Done.st (B := T3.setTop (mkF m 24 #[.val (.ref a), .val (.int q)] [])) (fun _ k => XS.icmpYes X3.here hx rfl (pc0 := 17) (pc' := 24) rfl (hb hby d1_17) rfl (tlt hc17).2.2.1 (by decide) (by decide) k) ?_
        refine Done.st (B := T3.setTop (mkF m 25 #[.val (.ref a), .val (.int q)] [(.int (0 : Int32))])) (fun _ k => XS.iconst X3.here hx rfl (hb hby d1_24) k) ?_
        obtain ⟨fs, hr, hrun, hended, hW, hsame⟩ := X3.leave (v := some (.int (0 : Int32))) (hlocks := hlk) (fun h => by rw [Bd.returns] at h; cases h)
        refine Done.fin (retN X3 hx (t := .boolean) Bd.returns (by simp) (hb hby d1_25) hr) hrun hended ⟨_, _, rfl, ?_, ⟨_, rfl⟩, hW, hsame.mono (by decide) (by decide)⟩
        show Qrm1 Z a q f z h0 n0 _ T3.heap _
        rw [e3]
        exact ⟨by simp [own_fits, hc5, hc12, hc17], N0, rfl⟩
      · refine Done.st (B := T3.setTop (mkF m 20 #[.val (.ref a), .val (.int q)] [])) (fun _ k => XS.icmpNo X3.here hx rfl (hb hby d1_17) rfl (flt hc17).2.2.1 k) ?_
        refine Done.st (B := T3.setTop (mkF m 21 #[.val (.ref a), .val (.int q)] [(.int (1 : Int32))])) (fun _ k => XS.iconst X3.here hx rfl (hb hby d1_20) k) ?_
        refine Done.st (B := T3.setTop (mkF m 25 #[.val (.ref a), .val (.int q)] [(.int (1 : Int32))])) (fun _ k => XS.goto X3.here hx rfl (pc0 := 21) (pc' := 25) rfl (hb hby d1_21) (by decide) (by decide) k) ?_
        obtain ⟨fs, hr, hrun, hended, hW, hsame⟩ := X3.leave (v := some (.int (1 : Int32))) (hlocks := hlk) (fun h => by rw [Bd.returns] at h; cases h)
        refine Done.fin (retN X3 hx (t := .boolean) Bd.returns (by simp) (hb hby d1_25) hr) hrun hended ⟨_, _, rfl, ?_, ⟨_, rfl⟩, hW, hsame.mono (by decide) (by decide)⟩
        show Qrm1 Z a q f z h0 n0 _ T3.heap _
        rw [e3]
        exact ⟨by simp [own_fits, hc5, hc12, hc17], N0, rfl⟩
    · refine Done.st (B := T3.setTop (mkF m 20 #[.val (.ref a), .val (.int q)] [])) (fun _ k => XS.ifYes X3.here hx rfl (pc0 := 12) (pc' := 20) rfl (hb hby d1_12) rfl ((if0 _ _).trans (feq hc12).2) (by decide) (by decide) k) ?_
      refine Done.st (B := T3.setTop (mkF m 21 #[.val (.ref a), .val (.int q)] [(.int (1 : Int32))])) (fun _ k => XS.iconst X3.here hx rfl (hb hby d1_20) k) ?_
      refine Done.st (B := T3.setTop (mkF m 25 #[.val (.ref a), .val (.int q)] [(.int (1 : Int32))])) (fun _ k => XS.goto X3.here hx rfl (pc0 := 21) (pc' := 25) rfl (hb hby d1_21) (by decide) (by decide) k) ?_
      obtain ⟨fs, hr, hrun, hended, hW, hsame⟩ := X3.leave (v := some (.int (1 : Int32))) (hlocks := hlk) (fun h => by rw [Bd.returns] at h; cases h)
      refine Done.fin (retN X3 hx (t := .boolean) Bd.returns (by simp) (hb hby d1_25) hr) hrun hended ⟨_, _, rfl, ?_, ⟨_, rfl⟩, hW, hsame.mono (by decide) (by decide)⟩
      show Qrm1 Z a q f z h0 n0 _ T3.heap _
      rw [e3]
      exact ⟨by simp [own_fits, hc5, hc12], N0, rfl⟩
theorem ef_rm0 (m : MethodId) (x0 : Int32) (x1 : Int32) : entryFrame m #[(.int x0), (.int x1)] maxLocals = mkF m 0 #[.val (.int x0), .val (.int x1), .unset, .unset, .unset] [] := by first | (simp [entryFrame, mkF, argsToLocals, Value.category, maxLocals]; done) | rfl
def Qrm0 (Z : State) (x0 : Int32) (x1 : Int32) (w_STRING : Addr) (w_NON_EMPTY_ARRAY : Addr) (w_OPTIONAL_STRING : Addr) (w_ARRAY : Addr) (h0 : Heap) (n0 : Nat) (v : Option Value) (h : Heap) (L : List Loc) : Prop := v = some (.int 1) ∧ Fr n0 L
def Prm0 (s : State) (Z : State) (x0 : Int32) (x1 : Int32) (w_STRING : Addr) (w_NON_EMPTY_ARRAY : Addr) (w_OPTIONAL_STRING : Addr) (w_ARRAY : Addr) (h0 : Heap) (n0 : Nat) : State → Outcome → Prop := fun U' o => ∃ v L, o = .returned v ∧ Qrm0 Z x0 x1 w_STRING w_NON_EMPTY_ARRAY w_OPTIONAL_STRING w_ARRAY h0 n0 v U'.heap L ∧ FrameEnd s o U' L room_1.cells room_1.slots
set_option maxRecDepth 65536 in
set_option maxHeartbeats 40000000 in
theorem rm0 (l : Launch) (Z : State) (a0 : Array Value) (hw : ∀ d ∈ tables_1, d.before a0 Z = true) (ws : List Jvm.Cond) (x0 : Int32) (x1 : Int32) (w_STRING : Addr) (w_NON_EMPTY_ARRAY : Addr) (w_OPTIONAL_STRING : Addr) (w_ARRAY : Addr) (h0 : Heap) (n0 : Nat) (Z0 : n0 ≤ h0.size) (S_STRING : Sta Z h0 "com/example/nameward/nameward/model/Shape" "STRING" "Lcom/example/nameward/nameward/model/Shape;" (.ref w_STRING)) (E_STRING : Exa Z h0 w_STRING "com/example/nameward/nameward/model/Shape") (S_NON_EMPTY_ARRAY : Sta Z h0 "com/example/nameward/nameward/model/Shape" "NON_EMPTY_ARRAY" "Lcom/example/nameward/nameward/model/Shape;" (.ref w_NON_EMPTY_ARRAY)) (E_NON_EMPTY_ARRAY : Exa Z h0 w_NON_EMPTY_ARRAY "com/example/nameward/nameward/model/Shape") (S_OPTIONAL_STRING : Sta Z h0 "com/example/nameward/nameward/model/Shape" "OPTIONAL_STRING" "Lcom/example/nameward/nameward/model/Shape;" (.ref w_OPTIONAL_STRING)) (E_OPTIONAL_STRING : Exa Z h0 w_OPTIONAL_STRING "com/example/nameward/nameward/model/Shape") (S_ARRAY : Sta Z h0 "com/example/nameward/nameward/model/Shape" "ARRAY" "Lcom/example/nameward/nameward/model/Shape;" (.ref w_ARRAY)) (E_ARRAY : Exa Z h0 w_ARRAY "com/example/nameward/nameward/model/Shape") (F_STRING_fewest : Fld Z h0 w_STRING "com/example/nameward/nameward/model/Shape" "fewest" "I" (.int (1 : Int32))) (F_STRING_array : Fld Z h0 w_STRING "com/example/nameward/nameward/model/Shape" "array" "Z" (.int (0 : Int32))) (F_NON_EMPTY_ARRAY_fewest : Fld Z h0 w_NON_EMPTY_ARRAY "com/example/nameward/nameward/model/Shape" "fewest" "I" (.int (1 : Int32))) (F_NON_EMPTY_ARRAY_array : Fld Z h0 w_NON_EMPTY_ARRAY "com/example/nameward/nameward/model/Shape" "array" "Z" (.int (1 : Int32))) (F_OPTIONAL_STRING_fewest : Fld Z h0 w_OPTIONAL_STRING "com/example/nameward/nameward/model/Shape" "fewest" "I" (.int (0 : Int32))) (F_OPTIONAL_STRING_array : Fld Z h0 w_OPTIONAL_STRING "com/example/nameward/nameward/model/Shape" "array" "Z" (.int (0 : Int32))) (F_ARRAY_fewest : Fld Z h0 w_ARRAY "com/example/nameward/nameward/model/Shape" "fewest" "I" (.int (0 : Int32))) (F_ARRAY_array : Fld Z h0 w_ARRAY "com/example/nameward/nameward/model/Shape" "array" "Z" (.int (1 : Int32))) :
    MetFree l x (head1 (Jvm.Cond.code x code maxLocals ret :: ws) room_1) (fun aa U => aa = #[(.int x0), (.int x1)] ∧ Z.Warmed39 U.vm ∧ U.heap = h0) (fun _ _ _ _ _ => True) (fun _ U o U' => ∃ v L, o = .returned v ∧ Qrm0 Z x0 x1 w_STRING w_NON_EMPTY_ARRAY w_OPTIONAL_STRING w_ARRAY h0 n0 v U'.heap L ∧ FrameEnd U o U' L room_1.cells room_1.slots) := by
  refine MetFree.of_bodySF (plainFor_of_name pn_1) hisR ?_
  intro p e s m args below meth c s₁ Bd hml0 hP hK
  obtain ⟨rfl, hZ, hh⟩ := hP
  have hx := Bd.exec
  have hlk : meth.locks = false := by first | exact BodyLoose.notSynchronized Bd | exact Body.notSynchronized Bd
  have hby := Bd.bytes
  have hml : c.maxLocals = 5 := hml0
  have hown : s.vm.findClass "com/example/nameward/nameward/model/ShapeFitsPinLaw" = some m.cls := findClass_of_methodNamed Bd.named
  have hnm := (name_of_methodNamed Bd.named Bd.method).1
  have X0 : Stand p l e room_1 s m #[(.int x0), (.int x1)] below meth c s₁ [] 0 0 := Stand.of_body Bd
  have e0 : s₁.heap = h0 := by rw [← hh, Bd.state]; rfl
  have N0 := Fr.nil n0
  show Done p e below (Prm0 s Z x0 x1 w_STRING w_NON_EMPTY_ARRAY w_OPTIONAL_STRING w_ARRAY h0 n0) (s₁.setTop (entryFrame m #[(.int x0), (.int x1)] maxLocals))
  refine Done.st (B := s₁.setTop (mkF m 0 #[.val (.int x0), .val (.int x1), .unset, .unset, .unset] [])) (fun _ k => castTop (ef_rm0 m x0 x1) k) ?_
  refine Done.st (B := s₁.setTop (mkF m 1 #[.val (.int x0), .val (.int x1), .unset, .unset, .unset] [(.int x0)])) (fun _ k => XS.iloadN X0.here hx rfl (hb hby at_0) rfl k) ?_
  refine Done.st (B := s₁.setTop (mkF m 2 #[.val (.int x0), .val (.int x1), .unset, .unset, .unset] [(.int (3 : Int32)), (.int x0)])) (fun _ k => XS.iconst X0.here hx rfl (hb hby at_1) k) ?_
  refine Done.st (B := s₁.setTop (mkF m 3 #[.val (.int x0), .val (.int x1), .unset, .unset, .unset] [(.int (x0 &&& (3 : Int32)))])) (fun _ k => XS.iand X0.here hx rfl (hb hby at_2) rfl k) ?_
  refine Done.st (B := s₁.setTop (mkF m 4 #[.val (.int x0), .val (.int x1), .val (.int (x0 &&& (3 : Int32))), .unset, .unset] [])) (fun _ k => XS.istoreN X0.here hx rfl (hb hby at_3) rfl (l' := #[.val (.int x0), .val (.int x1), .val (.int (x0 &&& (3 : Int32))), .unset, .unset]) rfl k) ?_
  refine Done.st (B := s₁.setTop (mkF m 5 #[.val (.int x0), .val (.int x1), .val (.int (x0 &&& (3 : Int32))), .unset, .unset] [(.int (x0 &&& (3 : Int32)))])) (fun _ k => XS.iloadN X0.here hx rfl (hb hby at_4) rfl k) ?_
  by_cases hc5 : (x0 &&& (3 : Int32)) = (0 : Int32)
  · refine Done.st (B := s₁.setTop (mkF m 8 #[.val (.int x0), .val (.int x1), .val (.int (x0 &&& (3 : Int32))), .unset, .unset] [])) (fun _ k => XS.ifNo X0.here hx rfl (hb hby at_5) rfl ((if0 _ _).trans (teq hc5).2) k) ?_
    obtain ⟨T1, X1, e1, st1⟩ := getS2 X0 hx hZ hown (host := "") (Or.inl (hw _ (List.mem_of_getElem? (i := 0) rfl))) Via.refl e0 S_STRING (g := (mkF m 8 #[.val (.int x0), .val (.int x1), .val (.int (x0 &&& (3 : Int32))), .unset, .unset] [])) rfl (hb hby at_8)
    refine Done.st (B := T1.setTop (mkF m 11 #[.val (.int x0), .val (.int x1), .val (.int (x0 &&& (3 : Int32))), .unset, .unset] [(.ref w_STRING)])) (fun _ k => st1 _ k) ?_
    refine Done.st (B := T1.setTop (mkF m 12 #[.val (.int x0), .val (.int x1), .val (.int (x0 &&& (3 : Int32))), .val (.ref w_STRING), .unset] [])) (fun _ k => XS.astoreN X1.here hx rfl (hb hby at_11) rfl rfl (l' := #[.val (.int x0), .val (.int x1), .val (.int (x0 &&& (3 : Int32))), .val (.ref w_STRING), .unset]) rfl k) ?_
    refine Done.st (B := T1.setTop (mkF m 13 #[.val (.int x0), .val (.int x1), .val (.int (x0 &&& (3 : Int32))), .val (.ref w_STRING), .unset] [(.int x1)])) (fun _ k => XS.iloadN X1.here hx rfl (hb hby at_12) rfl k) ?_
    refine Done.st (B := T1.setTop (mkF m 14 #[.val (.int x0), .val (.int x1), .val (.int (x0 &&& (3 : Int32))), .val (.ref w_STRING), .unset] [(.int (1 : Int32)), (.int x1)])) (fun _ k => XS.iconst X1.here hx rfl (hb hby at_13) k) ?_
    by_cases hc14 : x1 = (1 : Int32)
    · refine Done.st (B := T1.setTop (mkF m 17 #[.val (.int x0), .val (.int x1), .val (.int (x0 &&& (3 : Int32))), .val (.ref w_STRING), .unset] [])) (fun _ k => XS.icmpNo X1.here hx rfl (hb hby at_14) rfl (teq hc14).2 k) ?_
      refine Done.st (B := T1.setTop (mkF m 18 #[.val (.int x0), .val (.int x1), .val (.int (x0 &&& (3 : Int32))), .val (.ref w_STRING), .unset] [(.int (1 : Int32))])) (fun _ k => XS.iconst X1.here hx rfl (hb hby at_17) k) ?_
      refine Done.st (B := T1.setTop (mkF m 22 #[.val (.int x0), .val (.int x1), .val (.int (x0 &&& (3 : Int32))), .val (.ref w_STRING), .unset] [(.int (1 : Int32))])) (fun _ k => XS.goto X1.here hx rfl (pc0 := 18) (pc' := 22) rfl (hb hby at_18) (by decide) (by decide) k) ?_
      refine Done.st (B := T1.setTop (mkF m 24 #[.val (.int x0), .val (.int x1), .val (.int (x0 &&& (3 : Int32))), .val (.ref w_STRING), .val (.int (1 : Int32))] [])) (fun _ k => XS.istore X1.here hx rfl (hb hby at_22) rfl (l' := #[.val (.int x0), .val (.int x1), .val (.int (x0 &&& (3 : Int32))), .val (.ref w_STRING), .val (.int (1 : Int32))]) rfl k) ?_
      refine Done.st (B := T1.setTop (mkF m 93 #[.val (.int x0), .val (.int x1), .val (.int (x0 &&& (3 : Int32))), .val (.ref w_STRING), .val (.int (1 : Int32))] [])) (fun _ k => XS.goto X1.here hx rfl (pc0 := 24) (pc' := 93) rfl (hb hby at_24) (by decide) (by decide) k) ?_
      refine Done.st (B := T1.setTop (mkF m 94 #[.val (.int x0), .val (.int x1), .val (.int (x0 &&& (3 : Int32))), .val (.ref w_STRING), .val (.int (1 : Int32))] [(.ref w_STRING)])) (fun _ k => XS.aloadN X1.here hx rfl (hb hby at_93) rfl rfl k) ?_
      refine Done.st (B := T1.setTop (mkF m 95 #[.val (.int x0), .val (.int x1), .val (.int (x0 &&& (3 : Int32))), .val (.ref w_STRING), .val (.int (1 : Int32))] [(.int x1), (.ref w_STRING)])) (fun _ k => XS.iloadN X1.here hx rfl (hb hby at_94) rfl k) ?_
      obtain ⟨cq2, kq2, q2a, q2b, q2c⟩ := isOf hZ e1 E_STRING
      obtain ⟨_, _, ⟨T2, L2, k2, n2⟩, -, X2, ⟨Lc2, hQ2, l2, y2, z2⟩, st2⟩ := X1.virtualBack hx (y := (⟨"com/example/nameward/nameward/model/Shape", "fits", "(I)Z"⟩ : MethodName)) (z := (⟨"com/example/nameward/nameward/model/Shape", "fits", "(I)Z"⟩ : MethodName)) hown (mvT hZ (hw _ (List.mem_of_getElem? (i := 3) rfl))) (mvT hZ (hw _ (List.mem_of_getElem? (i := 4) rfl))) (notFace_of_selects (args := #[]) (mvT hZ (hw _ (List.mem_of_getElem? (i := 6) rfl)))) (mvT hZ (hw _ (List.mem_of_getElem? (i := 6) rfl))) (mvT hZ (hw _ (List.mem_of_getElem? (i := 5) rfl))) (by decide) (backOf (W := 0) (rm1 l Z a0 hw [] w_STRING x1 (1 : Int32) (0 : Int32) h0 n0 Z0 F_STRING_fewest F_STRING_array) hZ (hw _ (List.mem_of_getElem? (i := 7) rfl)) (hw _ (List.mem_of_getElem? (i := 1) rfl)) (by decide) (by decide)) q2a q2c (g := (mkF m 95 #[.val (.int x0), .val (.int x1), .val (.int (x0 &&& (3 : Int32))), .val (.ref w_STRING), .val (.int (1 : Int32))] [(.int x1), (.ref w_STRING)])) rfl (by rw [hml]; rfl) (Steps.refl _) (argsL := [(.int x1)]) (rest := []) (lenOf pd_0 rfl) rfl (by show 2 * 0 + _ ≤ _; exact Nat.le_of_eq rfl) (hb hby at_95) (fun _ _ => ⟨rfl, e1, (by decide : 0 + 0 ≤ _), (by decide : 0 + 0 ≤ _)⟩)
      dsimp only [Pt.U, Pt.locs, Pt.cells, Pt.slots] at X2 l2 y2 z2 st2 hQ2
      subst l2 y2 z2
      obtain ⟨rfl, N2q, e2⟩ := hQ2
      have N2 := Fr.app N0 N2q
      refine Done.st (B := T2.setTop (mkF m 98 #[.val (.int x0), .val (.int x1), .val (.int (x0 &&& (3 : Int32))), .val (.ref w_STRING), .val (.int (1 : Int32))] [(.int (own_fits x1 (1 : Int32) (0 : Int32)))])) (fun _ k => st2.trans k) ?_
      refine Done.st (B := T2.setTop (mkF m 100 #[.val (.int x0), .val (.int x1), .val (.int (x0 &&& (3 : Int32))), .val (.ref w_STRING), .val (.int (1 : Int32))] [(.int (1 : Int32)), (.int (own_fits x1 (1 : Int32) (0 : Int32)))])) (fun _ k => XS.iload X2.here hx rfl (hb hby at_98) rfl k) ?_
      by_cases hc100 : (own_fits x1 (1 : Int32) (0 : Int32)) = (1 : Int32)
      · refine Done.st (B := T2.setTop (mkF m 103 #[.val (.int x0), .val (.int x1), .val (.int (x0 &&& (3 : Int32))), .val (.ref w_STRING), .val (.int (1 : Int32))] [])) (fun _ k => XS.icmpNo X2.here hx rfl (hb hby at_100) rfl (teq hc100).2 k) ?_
        refine Done.st (B := T2.setTop (mkF m 104 #[.val (.int x0), .val (.int x1), .val (.int (x0 &&& (3 : Int32))), .val (.ref w_STRING), .val (.int (1 : Int32))] [(.int (1 : Int32))])) (fun _ k => XS.iconst X2.here hx rfl (hb hby at_103) k) ?_
        refine Done.st (B := T2.setTop (mkF m 108 #[.val (.int x0), .val (.int x1), .val (.int (x0 &&& (3 : Int32))), .val (.ref w_STRING), .val (.int (1 : Int32))] [(.int (1 : Int32))])) (fun _ k => XS.goto X2.here hx rfl (pc0 := 104) (pc' := 108) rfl (hb hby at_104) (by decide) (by decide) k) ?_
        obtain ⟨fs, hr, hrun, hended, hW, hsame⟩ := X2.leave (v := some (.int (1 : Int32))) (hlocks := hlk) (fun h => by rw [Bd.returns] at h; cases h)
        refine Done.fin (retN X2 hx (t := .boolean) Bd.returns (by simp) (hb hby at_108) hr) hrun hended ⟨_, _, rfl, ?_, ⟨_, rfl⟩, hW, hsame.mono (by decide) (by decide)⟩
        show Qrm0 Z x0 x1 w_STRING w_NON_EMPTY_ARRAY w_OPTIONAL_STRING w_ARRAY h0 n0 _ T2.heap _
        rw [e2]
        exact ⟨rfl, N2⟩
      · refine Done.st (B := T2.setTop (mkF m 107 #[.val (.int x0), .val (.int x1), .val (.int (x0 &&& (3 : Int32))), .val (.ref w_STRING), .val (.int (1 : Int32))] [])) (fun _ k => XS.icmpYes X2.here hx rfl (pc0 := 100) (pc' := 107) rfl (hb hby at_100) rfl (feq hc100).2 (by decide) (by decide) k) ?_
        refine Done.st (B := T2.setTop (mkF m 108 #[.val (.int x0), .val (.int x1), .val (.int (x0 &&& (3 : Int32))), .val (.ref w_STRING), .val (.int (1 : Int32))] [(.int (0 : Int32))])) (fun _ k => XS.iconst X2.here hx rfl (hb hby at_107) k) ?_
        exact (hc100 (by rw [own_s0]; simp [hc5, hc14])).elim
    · refine Done.st (B := T1.setTop (mkF m 21 #[.val (.int x0), .val (.int x1), .val (.int (x0 &&& (3 : Int32))), .val (.ref w_STRING), .unset] [])) (fun _ k => XS.icmpYes X1.here hx rfl (pc0 := 14) (pc' := 21) rfl (hb hby at_14) rfl (feq hc14).2 (by decide) (by decide) k) ?_
      refine Done.st (B := T1.setTop (mkF m 22 #[.val (.int x0), .val (.int x1), .val (.int (x0 &&& (3 : Int32))), .val (.ref w_STRING), .unset] [(.int (0 : Int32))])) (fun _ k => XS.iconst X1.here hx rfl (hb hby at_21) k) ?_
      refine Done.st (B := T1.setTop (mkF m 24 #[.val (.int x0), .val (.int x1), .val (.int (x0 &&& (3 : Int32))), .val (.ref w_STRING), .val (.int (0 : Int32))] [])) (fun _ k => XS.istore X1.here hx rfl (hb hby at_22) rfl (l' := #[.val (.int x0), .val (.int x1), .val (.int (x0 &&& (3 : Int32))), .val (.ref w_STRING), .val (.int (0 : Int32))]) rfl k) ?_
      refine Done.st (B := T1.setTop (mkF m 93 #[.val (.int x0), .val (.int x1), .val (.int (x0 &&& (3 : Int32))), .val (.ref w_STRING), .val (.int (0 : Int32))] [])) (fun _ k => XS.goto X1.here hx rfl (pc0 := 24) (pc' := 93) rfl (hb hby at_24) (by decide) (by decide) k) ?_
      refine Done.st (B := T1.setTop (mkF m 94 #[.val (.int x0), .val (.int x1), .val (.int (x0 &&& (3 : Int32))), .val (.ref w_STRING), .val (.int (0 : Int32))] [(.ref w_STRING)])) (fun _ k => XS.aloadN X1.here hx rfl (hb hby at_93) rfl rfl k) ?_
      refine Done.st (B := T1.setTop (mkF m 95 #[.val (.int x0), .val (.int x1), .val (.int (x0 &&& (3 : Int32))), .val (.ref w_STRING), .val (.int (0 : Int32))] [(.int x1), (.ref w_STRING)])) (fun _ k => XS.iloadN X1.here hx rfl (hb hby at_94) rfl k) ?_
      obtain ⟨cq4, kq4, q4a, q4b, q4c⟩ := isOf hZ e1 E_STRING
      obtain ⟨_, _, ⟨T4, L4, k4, n4⟩, -, X4, ⟨Lc4, hQ4, l4, y4, z4⟩, st4⟩ := X1.virtualBack hx (y := (⟨"com/example/nameward/nameward/model/Shape", "fits", "(I)Z"⟩ : MethodName)) (z := (⟨"com/example/nameward/nameward/model/Shape", "fits", "(I)Z"⟩ : MethodName)) hown (mvT hZ (hw _ (List.mem_of_getElem? (i := 3) rfl))) (mvT hZ (hw _ (List.mem_of_getElem? (i := 4) rfl))) (notFace_of_selects (args := #[]) (mvT hZ (hw _ (List.mem_of_getElem? (i := 6) rfl)))) (mvT hZ (hw _ (List.mem_of_getElem? (i := 6) rfl))) (mvT hZ (hw _ (List.mem_of_getElem? (i := 5) rfl))) (by decide) (backOf (W := 0) (rm1 l Z a0 hw [] w_STRING x1 (1 : Int32) (0 : Int32) h0 n0 Z0 F_STRING_fewest F_STRING_array) hZ (hw _ (List.mem_of_getElem? (i := 7) rfl)) (hw _ (List.mem_of_getElem? (i := 1) rfl)) (by decide) (by decide)) q4a q4c (g := (mkF m 95 #[.val (.int x0), .val (.int x1), .val (.int (x0 &&& (3 : Int32))), .val (.ref w_STRING), .val (.int (0 : Int32))] [(.int x1), (.ref w_STRING)])) rfl (by rw [hml]; rfl) (Steps.refl _) (argsL := [(.int x1)]) (rest := []) (lenOf pd_0 rfl) rfl (by show 2 * 0 + _ ≤ _; exact Nat.le_of_eq rfl) (hb hby at_95) (fun _ _ => ⟨rfl, e1, (by decide : 0 + 0 ≤ _), (by decide : 0 + 0 ≤ _)⟩)
      dsimp only [Pt.U, Pt.locs, Pt.cells, Pt.slots] at X4 l4 y4 z4 st4 hQ4
      subst l4 y4 z4
      obtain ⟨rfl, N4q, e4⟩ := hQ4
      have N4 := Fr.app N0 N4q
      refine Done.st (B := T4.setTop (mkF m 98 #[.val (.int x0), .val (.int x1), .val (.int (x0 &&& (3 : Int32))), .val (.ref w_STRING), .val (.int (0 : Int32))] [(.int (own_fits x1 (1 : Int32) (0 : Int32)))])) (fun _ k => st4.trans k) ?_
      refine Done.st (B := T4.setTop (mkF m 100 #[.val (.int x0), .val (.int x1), .val (.int (x0 &&& (3 : Int32))), .val (.ref w_STRING), .val (.int (0 : Int32))] [(.int (0 : Int32)), (.int (own_fits x1 (1 : Int32) (0 : Int32)))])) (fun _ k => XS.iload X4.here hx rfl (hb hby at_98) rfl k) ?_
      by_cases hc100 : (own_fits x1 (1 : Int32) (0 : Int32)) = (0 : Int32)
      · refine Done.st (B := T4.setTop (mkF m 103 #[.val (.int x0), .val (.int x1), .val (.int (x0 &&& (3 : Int32))), .val (.ref w_STRING), .val (.int (0 : Int32))] [])) (fun _ k => XS.icmpNo X4.here hx rfl (hb hby at_100) rfl (teq hc100).2 k) ?_
        refine Done.st (B := T4.setTop (mkF m 104 #[.val (.int x0), .val (.int x1), .val (.int (x0 &&& (3 : Int32))), .val (.ref w_STRING), .val (.int (0 : Int32))] [(.int (1 : Int32))])) (fun _ k => XS.iconst X4.here hx rfl (hb hby at_103) k) ?_
        refine Done.st (B := T4.setTop (mkF m 108 #[.val (.int x0), .val (.int x1), .val (.int (x0 &&& (3 : Int32))), .val (.ref w_STRING), .val (.int (0 : Int32))] [(.int (1 : Int32))])) (fun _ k => XS.goto X4.here hx rfl (pc0 := 104) (pc' := 108) rfl (hb hby at_104) (by decide) (by decide) k) ?_
        obtain ⟨fs, hr, hrun, hended, hW, hsame⟩ := X4.leave (v := some (.int (1 : Int32))) (hlocks := hlk) (fun h => by rw [Bd.returns] at h; cases h)
        refine Done.fin (retN X4 hx (t := .boolean) Bd.returns (by simp) (hb hby at_108) hr) hrun hended ⟨_, _, rfl, ?_, ⟨_, rfl⟩, hW, hsame.mono (by decide) (by decide)⟩
        show Qrm0 Z x0 x1 w_STRING w_NON_EMPTY_ARRAY w_OPTIONAL_STRING w_ARRAY h0 n0 _ T4.heap _
        rw [e4]
        exact ⟨rfl, N4⟩
      · refine Done.st (B := T4.setTop (mkF m 107 #[.val (.int x0), .val (.int x1), .val (.int (x0 &&& (3 : Int32))), .val (.ref w_STRING), .val (.int (0 : Int32))] [])) (fun _ k => XS.icmpYes X4.here hx rfl (pc0 := 100) (pc' := 107) rfl (hb hby at_100) rfl (feq hc100).2 (by decide) (by decide) k) ?_
        refine Done.st (B := T4.setTop (mkF m 108 #[.val (.int x0), .val (.int x1), .val (.int (x0 &&& (3 : Int32))), .val (.ref w_STRING), .val (.int (0 : Int32))] [(.int (0 : Int32))])) (fun _ k => XS.iconst X4.here hx rfl (hb hby at_107) k) ?_
        exact (hc100 (by rw [own_s0]; simp [hc5, hc14])).elim
  · refine Done.st (B := s₁.setTop (mkF m 27 #[.val (.int x0), .val (.int x1), .val (.int (x0 &&& (3 : Int32))), .unset, .unset] [])) (fun _ k => XS.ifYes X0.here hx rfl (pc0 := 5) (pc' := 27) rfl (hb hby at_5) rfl ((if0 _ _).trans (feq hc5).2) (by decide) (by decide) k) ?_
    refine Done.st (B := s₁.setTop (mkF m 28 #[.val (.int x0), .val (.int x1), .val (.int (x0 &&& (3 : Int32))), .unset, .unset] [(.int (x0 &&& (3 : Int32)))])) (fun _ k => XS.iloadN X0.here hx rfl (hb hby at_27) rfl k) ?_
    refine Done.st (B := s₁.setTop (mkF m 29 #[.val (.int x0), .val (.int x1), .val (.int (x0 &&& (3 : Int32))), .unset, .unset] [(.int (1 : Int32)), (.int (x0 &&& (3 : Int32)))])) (fun _ k => XS.iconst X0.here hx rfl (hb hby at_28) k) ?_
    by_cases hc29 : (x0 &&& (3 : Int32)) = (1 : Int32)
    · refine Done.st (B := s₁.setTop (mkF m 32 #[.val (.int x0), .val (.int x1), .val (.int (x0 &&& (3 : Int32))), .unset, .unset] [])) (fun _ k => XS.icmpNo X0.here hx rfl (hb hby at_29) rfl (teq hc29).2 k) ?_
      obtain ⟨T6, X6, e6, st6⟩ := getS2 X0 hx hZ hown (host := "") (Or.inl (hw _ (List.mem_of_getElem? (i := 14) rfl))) Via.refl e0 S_OPTIONAL_STRING (g := (mkF m 32 #[.val (.int x0), .val (.int x1), .val (.int (x0 &&& (3 : Int32))), .unset, .unset] [])) rfl (hb hby at_32)
      refine Done.st (B := T6.setTop (mkF m 35 #[.val (.int x0), .val (.int x1), .val (.int (x0 &&& (3 : Int32))), .unset, .unset] [(.ref w_OPTIONAL_STRING)])) (fun _ k => st6 _ k) ?_
      refine Done.st (B := T6.setTop (mkF m 36 #[.val (.int x0), .val (.int x1), .val (.int (x0 &&& (3 : Int32))), .val (.ref w_OPTIONAL_STRING), .unset] [])) (fun _ k => XS.astoreN X6.here hx rfl (hb hby at_35) rfl rfl (l' := #[.val (.int x0), .val (.int x1), .val (.int (x0 &&& (3 : Int32))), .val (.ref w_OPTIONAL_STRING), .unset]) rfl k) ?_
      refine Done.st (B := T6.setTop (mkF m 37 #[.val (.int x0), .val (.int x1), .val (.int (x0 &&& (3 : Int32))), .val (.ref w_OPTIONAL_STRING), .unset] [(.int x1)])) (fun _ k => XS.iloadN X6.here hx rfl (hb hby at_36) rfl k) ?_
      by_cases hc37 : x1 = (0 : Int32)
      · refine Done.st (B := T6.setTop (mkF m 45 #[.val (.int x0), .val (.int x1), .val (.int (x0 &&& (3 : Int32))), .val (.ref w_OPTIONAL_STRING), .unset] [])) (fun _ k => XS.ifYes X6.here hx rfl (pc0 := 37) (pc' := 45) rfl (hb hby at_37) rfl ((if0 _ _).trans (teq hc37).1) (by decide) (by decide) k) ?_
        refine Done.st (B := T6.setTop (mkF m 46 #[.val (.int x0), .val (.int x1), .val (.int (x0 &&& (3 : Int32))), .val (.ref w_OPTIONAL_STRING), .unset] [(.int (1 : Int32))])) (fun _ k => XS.iconst X6.here hx rfl (hb hby at_45) k) ?_
        refine Done.st (B := T6.setTop (mkF m 50 #[.val (.int x0), .val (.int x1), .val (.int (x0 &&& (3 : Int32))), .val (.ref w_OPTIONAL_STRING), .unset] [(.int (1 : Int32))])) (fun _ k => XS.goto X6.here hx rfl (pc0 := 46) (pc' := 50) rfl (hb hby at_46) (by decide) (by decide) k) ?_
        refine Done.st (B := T6.setTop (mkF m 52 #[.val (.int x0), .val (.int x1), .val (.int (x0 &&& (3 : Int32))), .val (.ref w_OPTIONAL_STRING), .val (.int (1 : Int32))] [])) (fun _ k => XS.istore X6.here hx rfl (hb hby at_50) rfl (l' := #[.val (.int x0), .val (.int x1), .val (.int (x0 &&& (3 : Int32))), .val (.ref w_OPTIONAL_STRING), .val (.int (1 : Int32))]) rfl k) ?_
        refine Done.st (B := T6.setTop (mkF m 93 #[.val (.int x0), .val (.int x1), .val (.int (x0 &&& (3 : Int32))), .val (.ref w_OPTIONAL_STRING), .val (.int (1 : Int32))] [])) (fun _ k => XS.goto X6.here hx rfl (pc0 := 52) (pc' := 93) rfl (hb hby at_52) (by decide) (by decide) k) ?_
        refine Done.st (B := T6.setTop (mkF m 94 #[.val (.int x0), .val (.int x1), .val (.int (x0 &&& (3 : Int32))), .val (.ref w_OPTIONAL_STRING), .val (.int (1 : Int32))] [(.ref w_OPTIONAL_STRING)])) (fun _ k => XS.aloadN X6.here hx rfl (hb hby at_93) rfl rfl k) ?_
        refine Done.st (B := T6.setTop (mkF m 95 #[.val (.int x0), .val (.int x1), .val (.int (x0 &&& (3 : Int32))), .val (.ref w_OPTIONAL_STRING), .val (.int (1 : Int32))] [(.int x1), (.ref w_OPTIONAL_STRING)])) (fun _ k => XS.iloadN X6.here hx rfl (hb hby at_94) rfl k) ?_
        obtain ⟨cq7, kq7, q7a, q7b, q7c⟩ := isOf hZ e6 E_OPTIONAL_STRING
        obtain ⟨_, _, ⟨T7, L7, k7, n7⟩, -, X7, ⟨Lc7, hQ7, l7, y7, z7⟩, st7⟩ := X6.virtualBack hx (y := (⟨"com/example/nameward/nameward/model/Shape", "fits", "(I)Z"⟩ : MethodName)) (z := (⟨"com/example/nameward/nameward/model/Shape", "fits", "(I)Z"⟩ : MethodName)) hown (mvT hZ (hw _ (List.mem_of_getElem? (i := 3) rfl))) (mvT hZ (hw _ (List.mem_of_getElem? (i := 4) rfl))) (notFace_of_selects (args := #[]) (mvT hZ (hw _ (List.mem_of_getElem? (i := 6) rfl)))) (mvT hZ (hw _ (List.mem_of_getElem? (i := 6) rfl))) (mvT hZ (hw _ (List.mem_of_getElem? (i := 5) rfl))) (by decide) (backOf (W := 0) (rm1 l Z a0 hw [] w_OPTIONAL_STRING x1 (0 : Int32) (0 : Int32) h0 n0 Z0 F_OPTIONAL_STRING_fewest F_OPTIONAL_STRING_array) hZ (hw _ (List.mem_of_getElem? (i := 7) rfl)) (hw _ (List.mem_of_getElem? (i := 1) rfl)) (by decide) (by decide)) q7a q7c (g := (mkF m 95 #[.val (.int x0), .val (.int x1), .val (.int (x0 &&& (3 : Int32))), .val (.ref w_OPTIONAL_STRING), .val (.int (1 : Int32))] [(.int x1), (.ref w_OPTIONAL_STRING)])) rfl (by rw [hml]; rfl) (Steps.refl _) (argsL := [(.int x1)]) (rest := []) (lenOf pd_0 rfl) rfl (by show 2 * 0 + _ ≤ _; exact Nat.le_of_eq rfl) (hb hby at_95) (fun _ _ => ⟨rfl, e6, (by decide : 0 + 0 ≤ _), (by decide : 0 + 0 ≤ _)⟩)
        dsimp only [Pt.U, Pt.locs, Pt.cells, Pt.slots] at X7 l7 y7 z7 st7 hQ7
        subst l7 y7 z7
        obtain ⟨rfl, N7q, e7⟩ := hQ7
        have N7 := Fr.app N0 N7q
        refine Done.st (B := T7.setTop (mkF m 98 #[.val (.int x0), .val (.int x1), .val (.int (x0 &&& (3 : Int32))), .val (.ref w_OPTIONAL_STRING), .val (.int (1 : Int32))] [(.int (own_fits x1 (0 : Int32) (0 : Int32)))])) (fun _ k => st7.trans k) ?_
        refine Done.st (B := T7.setTop (mkF m 100 #[.val (.int x0), .val (.int x1), .val (.int (x0 &&& (3 : Int32))), .val (.ref w_OPTIONAL_STRING), .val (.int (1 : Int32))] [(.int (1 : Int32)), (.int (own_fits x1 (0 : Int32) (0 : Int32)))])) (fun _ k => XS.iload X7.here hx rfl (hb hby at_98) rfl k) ?_
        by_cases hc100 : (own_fits x1 (0 : Int32) (0 : Int32)) = (1 : Int32)
        · refine Done.st (B := T7.setTop (mkF m 103 #[.val (.int x0), .val (.int x1), .val (.int (x0 &&& (3 : Int32))), .val (.ref w_OPTIONAL_STRING), .val (.int (1 : Int32))] [])) (fun _ k => XS.icmpNo X7.here hx rfl (hb hby at_100) rfl (teq hc100).2 k) ?_
          refine Done.st (B := T7.setTop (mkF m 104 #[.val (.int x0), .val (.int x1), .val (.int (x0 &&& (3 : Int32))), .val (.ref w_OPTIONAL_STRING), .val (.int (1 : Int32))] [(.int (1 : Int32))])) (fun _ k => XS.iconst X7.here hx rfl (hb hby at_103) k) ?_
          refine Done.st (B := T7.setTop (mkF m 108 #[.val (.int x0), .val (.int x1), .val (.int (x0 &&& (3 : Int32))), .val (.ref w_OPTIONAL_STRING), .val (.int (1 : Int32))] [(.int (1 : Int32))])) (fun _ k => XS.goto X7.here hx rfl (pc0 := 104) (pc' := 108) rfl (hb hby at_104) (by decide) (by decide) k) ?_
          obtain ⟨fs, hr, hrun, hended, hW, hsame⟩ := X7.leave (v := some (.int (1 : Int32))) (hlocks := hlk) (fun h => by rw [Bd.returns] at h; cases h)
          refine Done.fin (retN X7 hx (t := .boolean) Bd.returns (by simp) (hb hby at_108) hr) hrun hended ⟨_, _, rfl, ?_, ⟨_, rfl⟩, hW, hsame.mono (by decide) (by decide)⟩
          show Qrm0 Z x0 x1 w_STRING w_NON_EMPTY_ARRAY w_OPTIONAL_STRING w_ARRAY h0 n0 _ T7.heap _
          rw [e7]
          exact ⟨rfl, N7⟩
        · refine Done.st (B := T7.setTop (mkF m 107 #[.val (.int x0), .val (.int x1), .val (.int (x0 &&& (3 : Int32))), .val (.ref w_OPTIONAL_STRING), .val (.int (1 : Int32))] [])) (fun _ k => XS.icmpYes X7.here hx rfl (pc0 := 100) (pc' := 107) rfl (hb hby at_100) rfl (feq hc100).2 (by decide) (by decide) k) ?_
          refine Done.st (B := T7.setTop (mkF m 108 #[.val (.int x0), .val (.int x1), .val (.int (x0 &&& (3 : Int32))), .val (.ref w_OPTIONAL_STRING), .val (.int (1 : Int32))] [(.int (0 : Int32))])) (fun _ k => XS.iconst X7.here hx rfl (hb hby at_107) k) ?_
          exact (hc100 (by rw [own_s1]; simp [hc5, hc29, hc37])).elim
      · refine Done.st (B := T6.setTop (mkF m 40 #[.val (.int x0), .val (.int x1), .val (.int (x0 &&& (3 : Int32))), .val (.ref w_OPTIONAL_STRING), .unset] [])) (fun _ k => XS.ifNo X6.here hx rfl (hb hby at_37) rfl ((if0 _ _).trans (feq hc37).1) k) ?_
        refine Done.st (B := T6.setTop (mkF m 41 #[.val (.int x0), .val (.int x1), .val (.int (x0 &&& (3 : Int32))), .val (.ref w_OPTIONAL_STRING), .unset] [(.int x1)])) (fun _ k => XS.iloadN X6.here hx rfl (hb hby at_40) rfl k) ?_
        refine Done.st (B := T6.setTop (mkF m 42 #[.val (.int x0), .val (.int x1), .val (.int (x0 &&& (3 : Int32))), .val (.ref w_OPTIONAL_STRING), .unset] [(.int (1 : Int32)), (.int x1)])) (fun _ k => XS.iconst X6.here hx rfl (hb hby at_41) k) ?_
        by_cases hc42 : x1 = (1 : Int32)
        · refine Done.st (B := T6.setTop (mkF m 45 #[.val (.int x0), .val (.int x1), .val (.int (x0 &&& (3 : Int32))), .val (.ref w_OPTIONAL_STRING), .unset] [])) (fun _ k => XS.icmpNo X6.here hx rfl (hb hby at_42) rfl (teq hc42).2 k) ?_
          refine Done.st (B := T6.setTop (mkF m 46 #[.val (.int x0), .val (.int x1), .val (.int (x0 &&& (3 : Int32))), .val (.ref w_OPTIONAL_STRING), .unset] [(.int (1 : Int32))])) (fun _ k => XS.iconst X6.here hx rfl (hb hby at_45) k) ?_
          refine Done.st (B := T6.setTop (mkF m 50 #[.val (.int x0), .val (.int x1), .val (.int (x0 &&& (3 : Int32))), .val (.ref w_OPTIONAL_STRING), .unset] [(.int (1 : Int32))])) (fun _ k => XS.goto X6.here hx rfl (pc0 := 46) (pc' := 50) rfl (hb hby at_46) (by decide) (by decide) k) ?_
          refine Done.st (B := T6.setTop (mkF m 52 #[.val (.int x0), .val (.int x1), .val (.int (x0 &&& (3 : Int32))), .val (.ref w_OPTIONAL_STRING), .val (.int (1 : Int32))] [])) (fun _ k => XS.istore X6.here hx rfl (hb hby at_50) rfl (l' := #[.val (.int x0), .val (.int x1), .val (.int (x0 &&& (3 : Int32))), .val (.ref w_OPTIONAL_STRING), .val (.int (1 : Int32))]) rfl k) ?_
          refine Done.st (B := T6.setTop (mkF m 93 #[.val (.int x0), .val (.int x1), .val (.int (x0 &&& (3 : Int32))), .val (.ref w_OPTIONAL_STRING), .val (.int (1 : Int32))] [])) (fun _ k => XS.goto X6.here hx rfl (pc0 := 52) (pc' := 93) rfl (hb hby at_52) (by decide) (by decide) k) ?_
          refine Done.st (B := T6.setTop (mkF m 94 #[.val (.int x0), .val (.int x1), .val (.int (x0 &&& (3 : Int32))), .val (.ref w_OPTIONAL_STRING), .val (.int (1 : Int32))] [(.ref w_OPTIONAL_STRING)])) (fun _ k => XS.aloadN X6.here hx rfl (hb hby at_93) rfl rfl k) ?_
          refine Done.st (B := T6.setTop (mkF m 95 #[.val (.int x0), .val (.int x1), .val (.int (x0 &&& (3 : Int32))), .val (.ref w_OPTIONAL_STRING), .val (.int (1 : Int32))] [(.int x1), (.ref w_OPTIONAL_STRING)])) (fun _ k => XS.iloadN X6.here hx rfl (hb hby at_94) rfl k) ?_
          obtain ⟨cq9, kq9, q9a, q9b, q9c⟩ := isOf hZ e6 E_OPTIONAL_STRING
          obtain ⟨_, _, ⟨T9, L9, k9, n9⟩, -, X9, ⟨Lc9, hQ9, l9, y9, z9⟩, st9⟩ := X6.virtualBack hx (y := (⟨"com/example/nameward/nameward/model/Shape", "fits", "(I)Z"⟩ : MethodName)) (z := (⟨"com/example/nameward/nameward/model/Shape", "fits", "(I)Z"⟩ : MethodName)) hown (mvT hZ (hw _ (List.mem_of_getElem? (i := 3) rfl))) (mvT hZ (hw _ (List.mem_of_getElem? (i := 4) rfl))) (notFace_of_selects (args := #[]) (mvT hZ (hw _ (List.mem_of_getElem? (i := 6) rfl)))) (mvT hZ (hw _ (List.mem_of_getElem? (i := 6) rfl))) (mvT hZ (hw _ (List.mem_of_getElem? (i := 5) rfl))) (by decide) (backOf (W := 0) (rm1 l Z a0 hw [] w_OPTIONAL_STRING x1 (0 : Int32) (0 : Int32) h0 n0 Z0 F_OPTIONAL_STRING_fewest F_OPTIONAL_STRING_array) hZ (hw _ (List.mem_of_getElem? (i := 7) rfl)) (hw _ (List.mem_of_getElem? (i := 1) rfl)) (by decide) (by decide)) q9a q9c (g := (mkF m 95 #[.val (.int x0), .val (.int x1), .val (.int (x0 &&& (3 : Int32))), .val (.ref w_OPTIONAL_STRING), .val (.int (1 : Int32))] [(.int x1), (.ref w_OPTIONAL_STRING)])) rfl (by rw [hml]; rfl) (Steps.refl _) (argsL := [(.int x1)]) (rest := []) (lenOf pd_0 rfl) rfl (by show 2 * 0 + _ ≤ _; exact Nat.le_of_eq rfl) (hb hby at_95) (fun _ _ => ⟨rfl, e6, (by decide : 0 + 0 ≤ _), (by decide : 0 + 0 ≤ _)⟩)
          dsimp only [Pt.U, Pt.locs, Pt.cells, Pt.slots] at X9 l9 y9 z9 st9 hQ9
          subst l9 y9 z9
          obtain ⟨rfl, N9q, e9⟩ := hQ9
          have N9 := Fr.app N0 N9q
          refine Done.st (B := T9.setTop (mkF m 98 #[.val (.int x0), .val (.int x1), .val (.int (x0 &&& (3 : Int32))), .val (.ref w_OPTIONAL_STRING), .val (.int (1 : Int32))] [(.int (own_fits x1 (0 : Int32) (0 : Int32)))])) (fun _ k => st9.trans k) ?_
          refine Done.st (B := T9.setTop (mkF m 100 #[.val (.int x0), .val (.int x1), .val (.int (x0 &&& (3 : Int32))), .val (.ref w_OPTIONAL_STRING), .val (.int (1 : Int32))] [(.int (1 : Int32)), (.int (own_fits x1 (0 : Int32) (0 : Int32)))])) (fun _ k => XS.iload X9.here hx rfl (hb hby at_98) rfl k) ?_
          by_cases hc100 : (own_fits x1 (0 : Int32) (0 : Int32)) = (1 : Int32)
          · refine Done.st (B := T9.setTop (mkF m 103 #[.val (.int x0), .val (.int x1), .val (.int (x0 &&& (3 : Int32))), .val (.ref w_OPTIONAL_STRING), .val (.int (1 : Int32))] [])) (fun _ k => XS.icmpNo X9.here hx rfl (hb hby at_100) rfl (teq hc100).2 k) ?_
            refine Done.st (B := T9.setTop (mkF m 104 #[.val (.int x0), .val (.int x1), .val (.int (x0 &&& (3 : Int32))), .val (.ref w_OPTIONAL_STRING), .val (.int (1 : Int32))] [(.int (1 : Int32))])) (fun _ k => XS.iconst X9.here hx rfl (hb hby at_103) k) ?_
            refine Done.st (B := T9.setTop (mkF m 108 #[.val (.int x0), .val (.int x1), .val (.int (x0 &&& (3 : Int32))), .val (.ref w_OPTIONAL_STRING), .val (.int (1 : Int32))] [(.int (1 : Int32))])) (fun _ k => XS.goto X9.here hx rfl (pc0 := 104) (pc' := 108) rfl (hb hby at_104) (by decide) (by decide) k) ?_
            obtain ⟨fs, hr, hrun, hended, hW, hsame⟩ := X9.leave (v := some (.int (1 : Int32))) (hlocks := hlk) (fun h => by rw [Bd.returns] at h; cases h)
            refine Done.fin (retN X9 hx (t := .boolean) Bd.returns (by simp) (hb hby at_108) hr) hrun hended ⟨_, _, rfl, ?_, ⟨_, rfl⟩, hW, hsame.mono (by decide) (by decide)⟩
            show Qrm0 Z x0 x1 w_STRING w_NON_EMPTY_ARRAY w_OPTIONAL_STRING w_ARRAY h0 n0 _ T9.heap _
            rw [e9]
            exact ⟨rfl, N9⟩
          · refine Done.st (B := T9.setTop (mkF m 107 #[.val (.int x0), .val (.int x1), .val (.int (x0 &&& (3 : Int32))), .val (.ref w_OPTIONAL_STRING), .val (.int (1 : Int32))] [])) (fun _ k => XS.icmpYes X9.here hx rfl (pc0 := 100) (pc' := 107) rfl (hb hby at_100) rfl (feq hc100).2 (by decide) (by decide) k) ?_
            refine Done.st (B := T9.setTop (mkF m 108 #[.val (.int x0), .val (.int x1), .val (.int (x0 &&& (3 : Int32))), .val (.ref w_OPTIONAL_STRING), .val (.int (1 : Int32))] [(.int (0 : Int32))])) (fun _ k => XS.iconst X9.here hx rfl (hb hby at_107) k) ?_
            exact (hc100 (by rw [own_s1]; simp [hc5, hc29, hc37, hc42])).elim
        · refine Done.st (B := T6.setTop (mkF m 49 #[.val (.int x0), .val (.int x1), .val (.int (x0 &&& (3 : Int32))), .val (.ref w_OPTIONAL_STRING), .unset] [])) (fun _ k => XS.icmpYes X6.here hx rfl (pc0 := 42) (pc' := 49) rfl (hb hby at_42) rfl (feq hc42).2 (by decide) (by decide) k) ?_
          refine Done.st (B := T6.setTop (mkF m 50 #[.val (.int x0), .val (.int x1), .val (.int (x0 &&& (3 : Int32))), .val (.ref w_OPTIONAL_STRING), .unset] [(.int (0 : Int32))])) (fun _ k => XS.iconst X6.here hx rfl (hb hby at_49) k) ?_
          refine Done.st (B := T6.setTop (mkF m 52 #[.val (.int x0), .val (.int x1), .val (.int (x0 &&& (3 : Int32))), .val (.ref w_OPTIONAL_STRING), .val (.int (0 : Int32))] [])) (fun _ k => XS.istore X6.here hx rfl (hb hby at_50) rfl (l' := #[.val (.int x0), .val (.int x1), .val (.int (x0 &&& (3 : Int32))), .val (.ref w_OPTIONAL_STRING), .val (.int (0 : Int32))]) rfl k) ?_
          refine Done.st (B := T6.setTop (mkF m 93 #[.val (.int x0), .val (.int x1), .val (.int (x0 &&& (3 : Int32))), .val (.ref w_OPTIONAL_STRING), .val (.int (0 : Int32))] [])) (fun _ k => XS.goto X6.here hx rfl (pc0 := 52) (pc' := 93) rfl (hb hby at_52) (by decide) (by decide) k) ?_
          refine Done.st (B := T6.setTop (mkF m 94 #[.val (.int x0), .val (.int x1), .val (.int (x0 &&& (3 : Int32))), .val (.ref w_OPTIONAL_STRING), .val (.int (0 : Int32))] [(.ref w_OPTIONAL_STRING)])) (fun _ k => XS.aloadN X6.here hx rfl (hb hby at_93) rfl rfl k) ?_
          refine Done.st (B := T6.setTop (mkF m 95 #[.val (.int x0), .val (.int x1), .val (.int (x0 &&& (3 : Int32))), .val (.ref w_OPTIONAL_STRING), .val (.int (0 : Int32))] [(.int x1), (.ref w_OPTIONAL_STRING)])) (fun _ k => XS.iloadN X6.here hx rfl (hb hby at_94) rfl k) ?_
          obtain ⟨cq11, kq11, q11a, q11b, q11c⟩ := isOf hZ e6 E_OPTIONAL_STRING
          obtain ⟨_, _, ⟨T11, L11, k11, n11⟩, -, X11, ⟨Lc11, hQ11, l11, y11, z11⟩, st11⟩ := X6.virtualBack hx (y := (⟨"com/example/nameward/nameward/model/Shape", "fits", "(I)Z"⟩ : MethodName)) (z := (⟨"com/example/nameward/nameward/model/Shape", "fits", "(I)Z"⟩ : MethodName)) hown (mvT hZ (hw _ (List.mem_of_getElem? (i := 3) rfl))) (mvT hZ (hw _ (List.mem_of_getElem? (i := 4) rfl))) (notFace_of_selects (args := #[]) (mvT hZ (hw _ (List.mem_of_getElem? (i := 6) rfl)))) (mvT hZ (hw _ (List.mem_of_getElem? (i := 6) rfl))) (mvT hZ (hw _ (List.mem_of_getElem? (i := 5) rfl))) (by decide) (backOf (W := 0) (rm1 l Z a0 hw [] w_OPTIONAL_STRING x1 (0 : Int32) (0 : Int32) h0 n0 Z0 F_OPTIONAL_STRING_fewest F_OPTIONAL_STRING_array) hZ (hw _ (List.mem_of_getElem? (i := 7) rfl)) (hw _ (List.mem_of_getElem? (i := 1) rfl)) (by decide) (by decide)) q11a q11c (g := (mkF m 95 #[.val (.int x0), .val (.int x1), .val (.int (x0 &&& (3 : Int32))), .val (.ref w_OPTIONAL_STRING), .val (.int (0 : Int32))] [(.int x1), (.ref w_OPTIONAL_STRING)])) rfl (by rw [hml]; rfl) (Steps.refl _) (argsL := [(.int x1)]) (rest := []) (lenOf pd_0 rfl) rfl (by show 2 * 0 + _ ≤ _; exact Nat.le_of_eq rfl) (hb hby at_95) (fun _ _ => ⟨rfl, e6, (by decide : 0 + 0 ≤ _), (by decide : 0 + 0 ≤ _)⟩)
          dsimp only [Pt.U, Pt.locs, Pt.cells, Pt.slots] at X11 l11 y11 z11 st11 hQ11
          subst l11 y11 z11
          obtain ⟨rfl, N11q, e11⟩ := hQ11
          have N11 := Fr.app N0 N11q
          refine Done.st (B := T11.setTop (mkF m 98 #[.val (.int x0), .val (.int x1), .val (.int (x0 &&& (3 : Int32))), .val (.ref w_OPTIONAL_STRING), .val (.int (0 : Int32))] [(.int (own_fits x1 (0 : Int32) (0 : Int32)))])) (fun _ k => st11.trans k) ?_
          refine Done.st (B := T11.setTop (mkF m 100 #[.val (.int x0), .val (.int x1), .val (.int (x0 &&& (3 : Int32))), .val (.ref w_OPTIONAL_STRING), .val (.int (0 : Int32))] [(.int (0 : Int32)), (.int (own_fits x1 (0 : Int32) (0 : Int32)))])) (fun _ k => XS.iload X11.here hx rfl (hb hby at_98) rfl k) ?_
          by_cases hc100 : (own_fits x1 (0 : Int32) (0 : Int32)) = (0 : Int32)
          · refine Done.st (B := T11.setTop (mkF m 103 #[.val (.int x0), .val (.int x1), .val (.int (x0 &&& (3 : Int32))), .val (.ref w_OPTIONAL_STRING), .val (.int (0 : Int32))] [])) (fun _ k => XS.icmpNo X11.here hx rfl (hb hby at_100) rfl (teq hc100).2 k) ?_
            refine Done.st (B := T11.setTop (mkF m 104 #[.val (.int x0), .val (.int x1), .val (.int (x0 &&& (3 : Int32))), .val (.ref w_OPTIONAL_STRING), .val (.int (0 : Int32))] [(.int (1 : Int32))])) (fun _ k => XS.iconst X11.here hx rfl (hb hby at_103) k) ?_
            refine Done.st (B := T11.setTop (mkF m 108 #[.val (.int x0), .val (.int x1), .val (.int (x0 &&& (3 : Int32))), .val (.ref w_OPTIONAL_STRING), .val (.int (0 : Int32))] [(.int (1 : Int32))])) (fun _ k => XS.goto X11.here hx rfl (pc0 := 104) (pc' := 108) rfl (hb hby at_104) (by decide) (by decide) k) ?_
            obtain ⟨fs, hr, hrun, hended, hW, hsame⟩ := X11.leave (v := some (.int (1 : Int32))) (hlocks := hlk) (fun h => by rw [Bd.returns] at h; cases h)
            refine Done.fin (retN X11 hx (t := .boolean) Bd.returns (by simp) (hb hby at_108) hr) hrun hended ⟨_, _, rfl, ?_, ⟨_, rfl⟩, hW, hsame.mono (by decide) (by decide)⟩
            show Qrm0 Z x0 x1 w_STRING w_NON_EMPTY_ARRAY w_OPTIONAL_STRING w_ARRAY h0 n0 _ T11.heap _
            rw [e11]
            exact ⟨rfl, N11⟩
          · refine Done.st (B := T11.setTop (mkF m 107 #[.val (.int x0), .val (.int x1), .val (.int (x0 &&& (3 : Int32))), .val (.ref w_OPTIONAL_STRING), .val (.int (0 : Int32))] [])) (fun _ k => XS.icmpYes X11.here hx rfl (pc0 := 100) (pc' := 107) rfl (hb hby at_100) rfl (feq hc100).2 (by decide) (by decide) k) ?_
            refine Done.st (B := T11.setTop (mkF m 108 #[.val (.int x0), .val (.int x1), .val (.int (x0 &&& (3 : Int32))), .val (.ref w_OPTIONAL_STRING), .val (.int (0 : Int32))] [(.int (0 : Int32))])) (fun _ k => XS.iconst X11.here hx rfl (hb hby at_107) k) ?_
            exact (hc100 (by rw [own_s1]; simp [hc5, hc29, hc37, hc42])).elim
    · refine Done.st (B := s₁.setTop (mkF m 55 #[.val (.int x0), .val (.int x1), .val (.int (x0 &&& (3 : Int32))), .unset, .unset] [])) (fun _ k => XS.icmpYes X0.here hx rfl (pc0 := 29) (pc' := 55) rfl (hb hby at_29) rfl (feq hc29).2 (by decide) (by decide) k) ?_
      refine Done.st (B := s₁.setTop (mkF m 56 #[.val (.int x0), .val (.int x1), .val (.int (x0 &&& (3 : Int32))), .unset, .unset] [(.int (x0 &&& (3 : Int32)))])) (fun _ k => XS.iloadN X0.here hx rfl (hb hby at_55) rfl k) ?_
      refine Done.st (B := s₁.setTop (mkF m 57 #[.val (.int x0), .val (.int x1), .val (.int (x0 &&& (3 : Int32))), .unset, .unset] [(.int (2 : Int32)), (.int (x0 &&& (3 : Int32)))])) (fun _ k => XS.iconst X0.here hx rfl (hb hby at_56) k) ?_
      by_cases hc57 : (x0 &&& (3 : Int32)) = (2 : Int32)
      · refine Done.st (B := s₁.setTop (mkF m 60 #[.val (.int x0), .val (.int x1), .val (.int (x0 &&& (3 : Int32))), .unset, .unset] [])) (fun _ k => XS.icmpNo X0.here hx rfl (hb hby at_57) rfl (teq hc57).2 k) ?_
        obtain ⟨T13, X13, e13, st13⟩ := getS2 X0 hx hZ hown (host := "") (Or.inl (hw _ (List.mem_of_getElem? (i := 12) rfl))) Via.refl e0 S_NON_EMPTY_ARRAY (g := (mkF m 60 #[.val (.int x0), .val (.int x1), .val (.int (x0 &&& (3 : Int32))), .unset, .unset] [])) rfl (hb hby at_60)
        refine Done.st (B := T13.setTop (mkF m 63 #[.val (.int x0), .val (.int x1), .val (.int (x0 &&& (3 : Int32))), .unset, .unset] [(.ref w_NON_EMPTY_ARRAY)])) (fun _ k => st13 _ k) ?_
        refine Done.st (B := T13.setTop (mkF m 64 #[.val (.int x0), .val (.int x1), .val (.int (x0 &&& (3 : Int32))), .val (.ref w_NON_EMPTY_ARRAY), .unset] [])) (fun _ k => XS.astoreN X13.here hx rfl (hb hby at_63) rfl rfl (l' := #[.val (.int x0), .val (.int x1), .val (.int (x0 &&& (3 : Int32))), .val (.ref w_NON_EMPTY_ARRAY), .unset]) rfl k) ?_
        refine Done.st (B := T13.setTop (mkF m 65 #[.val (.int x0), .val (.int x1), .val (.int (x0 &&& (3 : Int32))), .val (.ref w_NON_EMPTY_ARRAY), .unset] [(.int x1)])) (fun _ k => XS.iloadN X13.here hx rfl (hb hby at_64) rfl k) ?_
        by_cases hc65 : (0 : Int32) < x1
        · refine Done.st (B := T13.setTop (mkF m 68 #[.val (.int x0), .val (.int x1), .val (.int (x0 &&& (3 : Int32))), .val (.ref w_NON_EMPTY_ARRAY), .unset] [])) (fun _ k => XS.ifNo X13.here hx rfl (hb hby at_65) rfl ((if0 _ _).trans (tlt hc65).2.2.2) k) ?_
          refine Done.st (B := T13.setTop (mkF m 69 #[.val (.int x0), .val (.int x1), .val (.int (x0 &&& (3 : Int32))), .val (.ref w_NON_EMPTY_ARRAY), .unset] [(.int (1 : Int32))])) (fun _ k => XS.iconst X13.here hx rfl (hb hby at_68) k) ?_
          refine Done.st (B := T13.setTop (mkF m 73 #[.val (.int x0), .val (.int x1), .val (.int (x0 &&& (3 : Int32))), .val (.ref w_NON_EMPTY_ARRAY), .unset] [(.int (1 : Int32))])) (fun _ k => XS.goto X13.here hx rfl (pc0 := 69) (pc' := 73) rfl (hb hby at_69) (by decide) (by decide) k) ?_
          refine Done.st (B := T13.setTop (mkF m 75 #[.val (.int x0), .val (.int x1), .val (.int (x0 &&& (3 : Int32))), .val (.ref w_NON_EMPTY_ARRAY), .val (.int (1 : Int32))] [])) (fun _ k => XS.istore X13.here hx rfl (hb hby at_73) rfl (l' := #[.val (.int x0), .val (.int x1), .val (.int (x0 &&& (3 : Int32))), .val (.ref w_NON_EMPTY_ARRAY), .val (.int (1 : Int32))]) rfl k) ?_
          refine Done.st (B := T13.setTop (mkF m 93 #[.val (.int x0), .val (.int x1), .val (.int (x0 &&& (3 : Int32))), .val (.ref w_NON_EMPTY_ARRAY), .val (.int (1 : Int32))] [])) (fun _ k => XS.goto X13.here hx rfl (pc0 := 75) (pc' := 93) rfl (hb hby at_75) (by decide) (by decide) k) ?_
          refine Done.st (B := T13.setTop (mkF m 94 #[.val (.int x0), .val (.int x1), .val (.int (x0 &&& (3 : Int32))), .val (.ref w_NON_EMPTY_ARRAY), .val (.int (1 : Int32))] [(.ref w_NON_EMPTY_ARRAY)])) (fun _ k => XS.aloadN X13.here hx rfl (hb hby at_93) rfl rfl k) ?_
          refine Done.st (B := T13.setTop (mkF m 95 #[.val (.int x0), .val (.int x1), .val (.int (x0 &&& (3 : Int32))), .val (.ref w_NON_EMPTY_ARRAY), .val (.int (1 : Int32))] [(.int x1), (.ref w_NON_EMPTY_ARRAY)])) (fun _ k => XS.iloadN X13.here hx rfl (hb hby at_94) rfl k) ?_
          obtain ⟨cq14, kq14, q14a, q14b, q14c⟩ := isOf hZ e13 E_NON_EMPTY_ARRAY
          obtain ⟨_, _, ⟨T14, L14, k14, n14⟩, -, X14, ⟨Lc14, hQ14, l14, y14, z14⟩, st14⟩ := X13.virtualBack hx (y := (⟨"com/example/nameward/nameward/model/Shape", "fits", "(I)Z"⟩ : MethodName)) (z := (⟨"com/example/nameward/nameward/model/Shape", "fits", "(I)Z"⟩ : MethodName)) hown (mvT hZ (hw _ (List.mem_of_getElem? (i := 3) rfl))) (mvT hZ (hw _ (List.mem_of_getElem? (i := 4) rfl))) (notFace_of_selects (args := #[]) (mvT hZ (hw _ (List.mem_of_getElem? (i := 6) rfl)))) (mvT hZ (hw _ (List.mem_of_getElem? (i := 6) rfl))) (mvT hZ (hw _ (List.mem_of_getElem? (i := 5) rfl))) (by decide) (backOf (W := 0) (rm1 l Z a0 hw [] w_NON_EMPTY_ARRAY x1 (1 : Int32) (1 : Int32) h0 n0 Z0 F_NON_EMPTY_ARRAY_fewest F_NON_EMPTY_ARRAY_array) hZ (hw _ (List.mem_of_getElem? (i := 7) rfl)) (hw _ (List.mem_of_getElem? (i := 1) rfl)) (by decide) (by decide)) q14a q14c (g := (mkF m 95 #[.val (.int x0), .val (.int x1), .val (.int (x0 &&& (3 : Int32))), .val (.ref w_NON_EMPTY_ARRAY), .val (.int (1 : Int32))] [(.int x1), (.ref w_NON_EMPTY_ARRAY)])) rfl (by rw [hml]; rfl) (Steps.refl _) (argsL := [(.int x1)]) (rest := []) (lenOf pd_0 rfl) rfl (by show 2 * 0 + _ ≤ _; exact Nat.le_of_eq rfl) (hb hby at_95) (fun _ _ => ⟨rfl, e13, (by decide : 0 + 0 ≤ _), (by decide : 0 + 0 ≤ _)⟩)
          dsimp only [Pt.U, Pt.locs, Pt.cells, Pt.slots] at X14 l14 y14 z14 st14 hQ14
          subst l14 y14 z14
          obtain ⟨rfl, N14q, e14⟩ := hQ14
          have N14 := Fr.app N0 N14q
          refine Done.st (B := T14.setTop (mkF m 98 #[.val (.int x0), .val (.int x1), .val (.int (x0 &&& (3 : Int32))), .val (.ref w_NON_EMPTY_ARRAY), .val (.int (1 : Int32))] [(.int (own_fits x1 (1 : Int32) (1 : Int32)))])) (fun _ k => st14.trans k) ?_
          refine Done.st (B := T14.setTop (mkF m 100 #[.val (.int x0), .val (.int x1), .val (.int (x0 &&& (3 : Int32))), .val (.ref w_NON_EMPTY_ARRAY), .val (.int (1 : Int32))] [(.int (1 : Int32)), (.int (own_fits x1 (1 : Int32) (1 : Int32)))])) (fun _ k => XS.iload X14.here hx rfl (hb hby at_98) rfl k) ?_
          by_cases hc100 : (own_fits x1 (1 : Int32) (1 : Int32)) = (1 : Int32)
          · refine Done.st (B := T14.setTop (mkF m 103 #[.val (.int x0), .val (.int x1), .val (.int (x0 &&& (3 : Int32))), .val (.ref w_NON_EMPTY_ARRAY), .val (.int (1 : Int32))] [])) (fun _ k => XS.icmpNo X14.here hx rfl (hb hby at_100) rfl (teq hc100).2 k) ?_
            refine Done.st (B := T14.setTop (mkF m 104 #[.val (.int x0), .val (.int x1), .val (.int (x0 &&& (3 : Int32))), .val (.ref w_NON_EMPTY_ARRAY), .val (.int (1 : Int32))] [(.int (1 : Int32))])) (fun _ k => XS.iconst X14.here hx rfl (hb hby at_103) k) ?_
            refine Done.st (B := T14.setTop (mkF m 108 #[.val (.int x0), .val (.int x1), .val (.int (x0 &&& (3 : Int32))), .val (.ref w_NON_EMPTY_ARRAY), .val (.int (1 : Int32))] [(.int (1 : Int32))])) (fun _ k => XS.goto X14.here hx rfl (pc0 := 104) (pc' := 108) rfl (hb hby at_104) (by decide) (by decide) k) ?_
            obtain ⟨fs, hr, hrun, hended, hW, hsame⟩ := X14.leave (v := some (.int (1 : Int32))) (hlocks := hlk) (fun h => by rw [Bd.returns] at h; cases h)
            refine Done.fin (retN X14 hx (t := .boolean) Bd.returns (by simp) (hb hby at_108) hr) hrun hended ⟨_, _, rfl, ?_, ⟨_, rfl⟩, hW, hsame.mono (by decide) (by decide)⟩
            show Qrm0 Z x0 x1 w_STRING w_NON_EMPTY_ARRAY w_OPTIONAL_STRING w_ARRAY h0 n0 _ T14.heap _
            rw [e14]
            exact ⟨rfl, N14⟩
          · refine Done.st (B := T14.setTop (mkF m 107 #[.val (.int x0), .val (.int x1), .val (.int (x0 &&& (3 : Int32))), .val (.ref w_NON_EMPTY_ARRAY), .val (.int (1 : Int32))] [])) (fun _ k => XS.icmpYes X14.here hx rfl (pc0 := 100) (pc' := 107) rfl (hb hby at_100) rfl (feq hc100).2 (by decide) (by decide) k) ?_
            refine Done.st (B := T14.setTop (mkF m 108 #[.val (.int x0), .val (.int x1), .val (.int (x0 &&& (3 : Int32))), .val (.ref w_NON_EMPTY_ARRAY), .val (.int (1 : Int32))] [(.int (0 : Int32))])) (fun _ k => XS.iconst X14.here hx rfl (hb hby at_107) k) ?_
            exact (hc100 (by rw [own_s2]; simp [hc5, hc29, hc57, hc65])).elim
        · refine Done.st (B := T13.setTop (mkF m 72 #[.val (.int x0), .val (.int x1), .val (.int (x0 &&& (3 : Int32))), .val (.ref w_NON_EMPTY_ARRAY), .unset] [])) (fun _ k => XS.ifYes X13.here hx rfl (pc0 := 65) (pc' := 72) rfl (hb hby at_65) rfl ((if0 _ _).trans (flt hc65).2.2.2) (by decide) (by decide) k) ?_
          refine Done.st (B := T13.setTop (mkF m 73 #[.val (.int x0), .val (.int x1), .val (.int (x0 &&& (3 : Int32))), .val (.ref w_NON_EMPTY_ARRAY), .unset] [(.int (0 : Int32))])) (fun _ k => XS.iconst X13.here hx rfl (hb hby at_72) k) ?_
          refine Done.st (B := T13.setTop (mkF m 75 #[.val (.int x0), .val (.int x1), .val (.int (x0 &&& (3 : Int32))), .val (.ref w_NON_EMPTY_ARRAY), .val (.int (0 : Int32))] [])) (fun _ k => XS.istore X13.here hx rfl (hb hby at_73) rfl (l' := #[.val (.int x0), .val (.int x1), .val (.int (x0 &&& (3 : Int32))), .val (.ref w_NON_EMPTY_ARRAY), .val (.int (0 : Int32))]) rfl k) ?_
          refine Done.st (B := T13.setTop (mkF m 93 #[.val (.int x0), .val (.int x1), .val (.int (x0 &&& (3 : Int32))), .val (.ref w_NON_EMPTY_ARRAY), .val (.int (0 : Int32))] [])) (fun _ k => XS.goto X13.here hx rfl (pc0 := 75) (pc' := 93) rfl (hb hby at_75) (by decide) (by decide) k) ?_
          refine Done.st (B := T13.setTop (mkF m 94 #[.val (.int x0), .val (.int x1), .val (.int (x0 &&& (3 : Int32))), .val (.ref w_NON_EMPTY_ARRAY), .val (.int (0 : Int32))] [(.ref w_NON_EMPTY_ARRAY)])) (fun _ k => XS.aloadN X13.here hx rfl (hb hby at_93) rfl rfl k) ?_
          refine Done.st (B := T13.setTop (mkF m 95 #[.val (.int x0), .val (.int x1), .val (.int (x0 &&& (3 : Int32))), .val (.ref w_NON_EMPTY_ARRAY), .val (.int (0 : Int32))] [(.int x1), (.ref w_NON_EMPTY_ARRAY)])) (fun _ k => XS.iloadN X13.here hx rfl (hb hby at_94) rfl k) ?_
          obtain ⟨cq16, kq16, q16a, q16b, q16c⟩ := isOf hZ e13 E_NON_EMPTY_ARRAY
          obtain ⟨_, _, ⟨T16, L16, k16, n16⟩, -, X16, ⟨Lc16, hQ16, l16, y16, z16⟩, st16⟩ := X13.virtualBack hx (y := (⟨"com/example/nameward/nameward/model/Shape", "fits", "(I)Z"⟩ : MethodName)) (z := (⟨"com/example/nameward/nameward/model/Shape", "fits", "(I)Z"⟩ : MethodName)) hown (mvT hZ (hw _ (List.mem_of_getElem? (i := 3) rfl))) (mvT hZ (hw _ (List.mem_of_getElem? (i := 4) rfl))) (notFace_of_selects (args := #[]) (mvT hZ (hw _ (List.mem_of_getElem? (i := 6) rfl)))) (mvT hZ (hw _ (List.mem_of_getElem? (i := 6) rfl))) (mvT hZ (hw _ (List.mem_of_getElem? (i := 5) rfl))) (by decide) (backOf (W := 0) (rm1 l Z a0 hw [] w_NON_EMPTY_ARRAY x1 (1 : Int32) (1 : Int32) h0 n0 Z0 F_NON_EMPTY_ARRAY_fewest F_NON_EMPTY_ARRAY_array) hZ (hw _ (List.mem_of_getElem? (i := 7) rfl)) (hw _ (List.mem_of_getElem? (i := 1) rfl)) (by decide) (by decide)) q16a q16c (g := (mkF m 95 #[.val (.int x0), .val (.int x1), .val (.int (x0 &&& (3 : Int32))), .val (.ref w_NON_EMPTY_ARRAY), .val (.int (0 : Int32))] [(.int x1), (.ref w_NON_EMPTY_ARRAY)])) rfl (by rw [hml]; rfl) (Steps.refl _) (argsL := [(.int x1)]) (rest := []) (lenOf pd_0 rfl) rfl (by show 2 * 0 + _ ≤ _; exact Nat.le_of_eq rfl) (hb hby at_95) (fun _ _ => ⟨rfl, e13, (by decide : 0 + 0 ≤ _), (by decide : 0 + 0 ≤ _)⟩)
          dsimp only [Pt.U, Pt.locs, Pt.cells, Pt.slots] at X16 l16 y16 z16 st16 hQ16
          subst l16 y16 z16
          obtain ⟨rfl, N16q, e16⟩ := hQ16
          have N16 := Fr.app N0 N16q
          refine Done.st (B := T16.setTop (mkF m 98 #[.val (.int x0), .val (.int x1), .val (.int (x0 &&& (3 : Int32))), .val (.ref w_NON_EMPTY_ARRAY), .val (.int (0 : Int32))] [(.int (own_fits x1 (1 : Int32) (1 : Int32)))])) (fun _ k => st16.trans k) ?_
          refine Done.st (B := T16.setTop (mkF m 100 #[.val (.int x0), .val (.int x1), .val (.int (x0 &&& (3 : Int32))), .val (.ref w_NON_EMPTY_ARRAY), .val (.int (0 : Int32))] [(.int (0 : Int32)), (.int (own_fits x1 (1 : Int32) (1 : Int32)))])) (fun _ k => XS.iload X16.here hx rfl (hb hby at_98) rfl k) ?_
          by_cases hc100 : (own_fits x1 (1 : Int32) (1 : Int32)) = (0 : Int32)
          · refine Done.st (B := T16.setTop (mkF m 103 #[.val (.int x0), .val (.int x1), .val (.int (x0 &&& (3 : Int32))), .val (.ref w_NON_EMPTY_ARRAY), .val (.int (0 : Int32))] [])) (fun _ k => XS.icmpNo X16.here hx rfl (hb hby at_100) rfl (teq hc100).2 k) ?_
            refine Done.st (B := T16.setTop (mkF m 104 #[.val (.int x0), .val (.int x1), .val (.int (x0 &&& (3 : Int32))), .val (.ref w_NON_EMPTY_ARRAY), .val (.int (0 : Int32))] [(.int (1 : Int32))])) (fun _ k => XS.iconst X16.here hx rfl (hb hby at_103) k) ?_
            refine Done.st (B := T16.setTop (mkF m 108 #[.val (.int x0), .val (.int x1), .val (.int (x0 &&& (3 : Int32))), .val (.ref w_NON_EMPTY_ARRAY), .val (.int (0 : Int32))] [(.int (1 : Int32))])) (fun _ k => XS.goto X16.here hx rfl (pc0 := 104) (pc' := 108) rfl (hb hby at_104) (by decide) (by decide) k) ?_
            obtain ⟨fs, hr, hrun, hended, hW, hsame⟩ := X16.leave (v := some (.int (1 : Int32))) (hlocks := hlk) (fun h => by rw [Bd.returns] at h; cases h)
            refine Done.fin (retN X16 hx (t := .boolean) Bd.returns (by simp) (hb hby at_108) hr) hrun hended ⟨_, _, rfl, ?_, ⟨_, rfl⟩, hW, hsame.mono (by decide) (by decide)⟩
            show Qrm0 Z x0 x1 w_STRING w_NON_EMPTY_ARRAY w_OPTIONAL_STRING w_ARRAY h0 n0 _ T16.heap _
            rw [e16]
            exact ⟨rfl, N16⟩
          · refine Done.st (B := T16.setTop (mkF m 107 #[.val (.int x0), .val (.int x1), .val (.int (x0 &&& (3 : Int32))), .val (.ref w_NON_EMPTY_ARRAY), .val (.int (0 : Int32))] [])) (fun _ k => XS.icmpYes X16.here hx rfl (pc0 := 100) (pc' := 107) rfl (hb hby at_100) rfl (feq hc100).2 (by decide) (by decide) k) ?_
            refine Done.st (B := T16.setTop (mkF m 108 #[.val (.int x0), .val (.int x1), .val (.int (x0 &&& (3 : Int32))), .val (.ref w_NON_EMPTY_ARRAY), .val (.int (0 : Int32))] [(.int (0 : Int32))])) (fun _ k => XS.iconst X16.here hx rfl (hb hby at_107) k) ?_
            exact (hc100 (by rw [own_s2]; simp [hc5, hc29, hc57, hc65])).elim
      · refine Done.st (B := s₁.setTop (mkF m 78 #[.val (.int x0), .val (.int x1), .val (.int (x0 &&& (3 : Int32))), .unset, .unset] [])) (fun _ k => XS.icmpYes X0.here hx rfl (pc0 := 57) (pc' := 78) rfl (hb hby at_57) rfl (feq hc57).2 (by decide) (by decide) k) ?_
        obtain ⟨T18, X18, e18, st18⟩ := getS2 X0 hx hZ hown (host := "") (Or.inl (hw _ (List.mem_of_getElem? (i := 16) rfl))) Via.refl e0 S_ARRAY (g := (mkF m 78 #[.val (.int x0), .val (.int x1), .val (.int (x0 &&& (3 : Int32))), .unset, .unset] [])) rfl (hb hby at_78)
        refine Done.st (B := T18.setTop (mkF m 81 #[.val (.int x0), .val (.int x1), .val (.int (x0 &&& (3 : Int32))), .unset, .unset] [(.ref w_ARRAY)])) (fun _ k => st18 _ k) ?_
        refine Done.st (B := T18.setTop (mkF m 82 #[.val (.int x0), .val (.int x1), .val (.int (x0 &&& (3 : Int32))), .val (.ref w_ARRAY), .unset] [])) (fun _ k => XS.astoreN X18.here hx rfl (hb hby at_81) rfl rfl (l' := #[.val (.int x0), .val (.int x1), .val (.int (x0 &&& (3 : Int32))), .val (.ref w_ARRAY), .unset]) rfl k) ?_
        refine Done.st (B := T18.setTop (mkF m 83 #[.val (.int x0), .val (.int x1), .val (.int (x0 &&& (3 : Int32))), .val (.ref w_ARRAY), .unset] [(.int x1)])) (fun _ k => XS.iloadN X18.here hx rfl (hb hby at_82) rfl k) ?_
        by_cases hc83 : x1 < (0 : Int32)
        · refine Done.st (B := T18.setTop (mkF m 90 #[.val (.int x0), .val (.int x1), .val (.int (x0 &&& (3 : Int32))), .val (.ref w_ARRAY), .unset] [])) (fun _ k => XS.ifYes X18.here hx rfl (pc0 := 83) (pc' := 90) rfl (hb hby at_83) rfl ((if0 _ _).trans (tlt hc83).1) (by decide) (by decide) k) ?_
          refine Done.st (B := T18.setTop (mkF m 91 #[.val (.int x0), .val (.int x1), .val (.int (x0 &&& (3 : Int32))), .val (.ref w_ARRAY), .unset] [(.int (0 : Int32))])) (fun _ k => XS.iconst X18.here hx rfl (hb hby at_90) k) ?_
          refine Done.st (B := T18.setTop (mkF m 93 #[.val (.int x0), .val (.int x1), .val (.int (x0 &&& (3 : Int32))), .val (.ref w_ARRAY), .val (.int (0 : Int32))] [])) (fun _ k => XS.istore X18.here hx rfl (hb hby at_91) rfl (l' := #[.val (.int x0), .val (.int x1), .val (.int (x0 &&& (3 : Int32))), .val (.ref w_ARRAY), .val (.int (0 : Int32))]) rfl k) ?_
          refine Done.st (B := T18.setTop (mkF m 94 #[.val (.int x0), .val (.int x1), .val (.int (x0 &&& (3 : Int32))), .val (.ref w_ARRAY), .val (.int (0 : Int32))] [(.ref w_ARRAY)])) (fun _ k => XS.aloadN X18.here hx rfl (hb hby at_93) rfl rfl k) ?_
          refine Done.st (B := T18.setTop (mkF m 95 #[.val (.int x0), .val (.int x1), .val (.int (x0 &&& (3 : Int32))), .val (.ref w_ARRAY), .val (.int (0 : Int32))] [(.int x1), (.ref w_ARRAY)])) (fun _ k => XS.iloadN X18.here hx rfl (hb hby at_94) rfl k) ?_
          obtain ⟨cq19, kq19, q19a, q19b, q19c⟩ := isOf hZ e18 E_ARRAY
          obtain ⟨_, _, ⟨T19, L19, k19, n19⟩, -, X19, ⟨Lc19, hQ19, l19, y19, z19⟩, st19⟩ := X18.virtualBack hx (y := (⟨"com/example/nameward/nameward/model/Shape", "fits", "(I)Z"⟩ : MethodName)) (z := (⟨"com/example/nameward/nameward/model/Shape", "fits", "(I)Z"⟩ : MethodName)) hown (mvT hZ (hw _ (List.mem_of_getElem? (i := 3) rfl))) (mvT hZ (hw _ (List.mem_of_getElem? (i := 4) rfl))) (notFace_of_selects (args := #[]) (mvT hZ (hw _ (List.mem_of_getElem? (i := 6) rfl)))) (mvT hZ (hw _ (List.mem_of_getElem? (i := 6) rfl))) (mvT hZ (hw _ (List.mem_of_getElem? (i := 5) rfl))) (by decide) (backOf (W := 0) (rm1 l Z a0 hw [] w_ARRAY x1 (0 : Int32) (1 : Int32) h0 n0 Z0 F_ARRAY_fewest F_ARRAY_array) hZ (hw _ (List.mem_of_getElem? (i := 7) rfl)) (hw _ (List.mem_of_getElem? (i := 1) rfl)) (by decide) (by decide)) q19a q19c (g := (mkF m 95 #[.val (.int x0), .val (.int x1), .val (.int (x0 &&& (3 : Int32))), .val (.ref w_ARRAY), .val (.int (0 : Int32))] [(.int x1), (.ref w_ARRAY)])) rfl (by rw [hml]; rfl) (Steps.refl _) (argsL := [(.int x1)]) (rest := []) (lenOf pd_0 rfl) rfl (by show 2 * 0 + _ ≤ _; exact Nat.le_of_eq rfl) (hb hby at_95) (fun _ _ => ⟨rfl, e18, (by decide : 0 + 0 ≤ _), (by decide : 0 + 0 ≤ _)⟩)
          dsimp only [Pt.U, Pt.locs, Pt.cells, Pt.slots] at X19 l19 y19 z19 st19 hQ19
          subst l19 y19 z19
          obtain ⟨rfl, N19q, e19⟩ := hQ19
          have N19 := Fr.app N0 N19q
          refine Done.st (B := T19.setTop (mkF m 98 #[.val (.int x0), .val (.int x1), .val (.int (x0 &&& (3 : Int32))), .val (.ref w_ARRAY), .val (.int (0 : Int32))] [(.int (own_fits x1 (0 : Int32) (1 : Int32)))])) (fun _ k => st19.trans k) ?_
          refine Done.st (B := T19.setTop (mkF m 100 #[.val (.int x0), .val (.int x1), .val (.int (x0 &&& (3 : Int32))), .val (.ref w_ARRAY), .val (.int (0 : Int32))] [(.int (0 : Int32)), (.int (own_fits x1 (0 : Int32) (1 : Int32)))])) (fun _ k => XS.iload X19.here hx rfl (hb hby at_98) rfl k) ?_
          by_cases hc100 : (own_fits x1 (0 : Int32) (1 : Int32)) = (0 : Int32)
          · refine Done.st (B := T19.setTop (mkF m 103 #[.val (.int x0), .val (.int x1), .val (.int (x0 &&& (3 : Int32))), .val (.ref w_ARRAY), .val (.int (0 : Int32))] [])) (fun _ k => XS.icmpNo X19.here hx rfl (hb hby at_100) rfl (teq hc100).2 k) ?_
            refine Done.st (B := T19.setTop (mkF m 104 #[.val (.int x0), .val (.int x1), .val (.int (x0 &&& (3 : Int32))), .val (.ref w_ARRAY), .val (.int (0 : Int32))] [(.int (1 : Int32))])) (fun _ k => XS.iconst X19.here hx rfl (hb hby at_103) k) ?_
            refine Done.st (B := T19.setTop (mkF m 108 #[.val (.int x0), .val (.int x1), .val (.int (x0 &&& (3 : Int32))), .val (.ref w_ARRAY), .val (.int (0 : Int32))] [(.int (1 : Int32))])) (fun _ k => XS.goto X19.here hx rfl (pc0 := 104) (pc' := 108) rfl (hb hby at_104) (by decide) (by decide) k) ?_
            obtain ⟨fs, hr, hrun, hended, hW, hsame⟩ := X19.leave (v := some (.int (1 : Int32))) (hlocks := hlk) (fun h => by rw [Bd.returns] at h; cases h)
            refine Done.fin (retN X19 hx (t := .boolean) Bd.returns (by simp) (hb hby at_108) hr) hrun hended ⟨_, _, rfl, ?_, ⟨_, rfl⟩, hW, hsame.mono (by decide) (by decide)⟩
            show Qrm0 Z x0 x1 w_STRING w_NON_EMPTY_ARRAY w_OPTIONAL_STRING w_ARRAY h0 n0 _ T19.heap _
            rw [e19]
            exact ⟨rfl, N19⟩
          · refine Done.st (B := T19.setTop (mkF m 107 #[.val (.int x0), .val (.int x1), .val (.int (x0 &&& (3 : Int32))), .val (.ref w_ARRAY), .val (.int (0 : Int32))] [])) (fun _ k => XS.icmpYes X19.here hx rfl (pc0 := 100) (pc' := 107) rfl (hb hby at_100) rfl (feq hc100).2 (by decide) (by decide) k) ?_
            refine Done.st (B := T19.setTop (mkF m 108 #[.val (.int x0), .val (.int x1), .val (.int (x0 &&& (3 : Int32))), .val (.ref w_ARRAY), .val (.int (0 : Int32))] [(.int (0 : Int32))])) (fun _ k => XS.iconst X19.here hx rfl (hb hby at_107) k) ?_
            exact (hc100 (by rw [own_s3]; simp [hc5, hc29, hc57, hc83])).elim
        · refine Done.st (B := T18.setTop (mkF m 86 #[.val (.int x0), .val (.int x1), .val (.int (x0 &&& (3 : Int32))), .val (.ref w_ARRAY), .unset] [])) (fun _ k => XS.ifNo X18.here hx rfl (hb hby at_83) rfl ((if0 _ _).trans (flt hc83).1) k) ?_
          refine Done.st (B := T18.setTop (mkF m 87 #[.val (.int x0), .val (.int x1), .val (.int (x0 &&& (3 : Int32))), .val (.ref w_ARRAY), .unset] [(.int (1 : Int32))])) (fun _ k => XS.iconst X18.here hx rfl (hb hby at_86) k) ?_
          refine Done.st (B := T18.setTop (mkF m 91 #[.val (.int x0), .val (.int x1), .val (.int (x0 &&& (3 : Int32))), .val (.ref w_ARRAY), .unset] [(.int (1 : Int32))])) (fun _ k => XS.goto X18.here hx rfl (pc0 := 87) (pc' := 91) rfl (hb hby at_87) (by decide) (by decide) k) ?_
          refine Done.st (B := T18.setTop (mkF m 93 #[.val (.int x0), .val (.int x1), .val (.int (x0 &&& (3 : Int32))), .val (.ref w_ARRAY), .val (.int (1 : Int32))] [])) (fun _ k => XS.istore X18.here hx rfl (hb hby at_91) rfl (l' := #[.val (.int x0), .val (.int x1), .val (.int (x0 &&& (3 : Int32))), .val (.ref w_ARRAY), .val (.int (1 : Int32))]) rfl k) ?_
          refine Done.st (B := T18.setTop (mkF m 94 #[.val (.int x0), .val (.int x1), .val (.int (x0 &&& (3 : Int32))), .val (.ref w_ARRAY), .val (.int (1 : Int32))] [(.ref w_ARRAY)])) (fun _ k => XS.aloadN X18.here hx rfl (hb hby at_93) rfl rfl k) ?_
          refine Done.st (B := T18.setTop (mkF m 95 #[.val (.int x0), .val (.int x1), .val (.int (x0 &&& (3 : Int32))), .val (.ref w_ARRAY), .val (.int (1 : Int32))] [(.int x1), (.ref w_ARRAY)])) (fun _ k => XS.iloadN X18.here hx rfl (hb hby at_94) rfl k) ?_
          obtain ⟨cq21, kq21, q21a, q21b, q21c⟩ := isOf hZ e18 E_ARRAY
          obtain ⟨_, _, ⟨T21, L21, k21, n21⟩, -, X21, ⟨Lc21, hQ21, l21, y21, z21⟩, st21⟩ := X18.virtualBack hx (y := (⟨"com/example/nameward/nameward/model/Shape", "fits", "(I)Z"⟩ : MethodName)) (z := (⟨"com/example/nameward/nameward/model/Shape", "fits", "(I)Z"⟩ : MethodName)) hown (mvT hZ (hw _ (List.mem_of_getElem? (i := 3) rfl))) (mvT hZ (hw _ (List.mem_of_getElem? (i := 4) rfl))) (notFace_of_selects (args := #[]) (mvT hZ (hw _ (List.mem_of_getElem? (i := 6) rfl)))) (mvT hZ (hw _ (List.mem_of_getElem? (i := 6) rfl))) (mvT hZ (hw _ (List.mem_of_getElem? (i := 5) rfl))) (by decide) (backOf (W := 0) (rm1 l Z a0 hw [] w_ARRAY x1 (0 : Int32) (1 : Int32) h0 n0 Z0 F_ARRAY_fewest F_ARRAY_array) hZ (hw _ (List.mem_of_getElem? (i := 7) rfl)) (hw _ (List.mem_of_getElem? (i := 1) rfl)) (by decide) (by decide)) q21a q21c (g := (mkF m 95 #[.val (.int x0), .val (.int x1), .val (.int (x0 &&& (3 : Int32))), .val (.ref w_ARRAY), .val (.int (1 : Int32))] [(.int x1), (.ref w_ARRAY)])) rfl (by rw [hml]; rfl) (Steps.refl _) (argsL := [(.int x1)]) (rest := []) (lenOf pd_0 rfl) rfl (by show 2 * 0 + _ ≤ _; exact Nat.le_of_eq rfl) (hb hby at_95) (fun _ _ => ⟨rfl, e18, (by decide : 0 + 0 ≤ _), (by decide : 0 + 0 ≤ _)⟩)
          dsimp only [Pt.U, Pt.locs, Pt.cells, Pt.slots] at X21 l21 y21 z21 st21 hQ21
          subst l21 y21 z21
          obtain ⟨rfl, N21q, e21⟩ := hQ21
          have N21 := Fr.app N0 N21q
          refine Done.st (B := T21.setTop (mkF m 98 #[.val (.int x0), .val (.int x1), .val (.int (x0 &&& (3 : Int32))), .val (.ref w_ARRAY), .val (.int (1 : Int32))] [(.int (own_fits x1 (0 : Int32) (1 : Int32)))])) (fun _ k => st21.trans k) ?_
          refine Done.st (B := T21.setTop (mkF m 100 #[.val (.int x0), .val (.int x1), .val (.int (x0 &&& (3 : Int32))), .val (.ref w_ARRAY), .val (.int (1 : Int32))] [(.int (1 : Int32)), (.int (own_fits x1 (0 : Int32) (1 : Int32)))])) (fun _ k => XS.iload X21.here hx rfl (hb hby at_98) rfl k) ?_
          by_cases hc100 : (own_fits x1 (0 : Int32) (1 : Int32)) = (1 : Int32)
          · refine Done.st (B := T21.setTop (mkF m 103 #[.val (.int x0), .val (.int x1), .val (.int (x0 &&& (3 : Int32))), .val (.ref w_ARRAY), .val (.int (1 : Int32))] [])) (fun _ k => XS.icmpNo X21.here hx rfl (hb hby at_100) rfl (teq hc100).2 k) ?_
            refine Done.st (B := T21.setTop (mkF m 104 #[.val (.int x0), .val (.int x1), .val (.int (x0 &&& (3 : Int32))), .val (.ref w_ARRAY), .val (.int (1 : Int32))] [(.int (1 : Int32))])) (fun _ k => XS.iconst X21.here hx rfl (hb hby at_103) k) ?_
            refine Done.st (B := T21.setTop (mkF m 108 #[.val (.int x0), .val (.int x1), .val (.int (x0 &&& (3 : Int32))), .val (.ref w_ARRAY), .val (.int (1 : Int32))] [(.int (1 : Int32))])) (fun _ k => XS.goto X21.here hx rfl (pc0 := 104) (pc' := 108) rfl (hb hby at_104) (by decide) (by decide) k) ?_
            obtain ⟨fs, hr, hrun, hended, hW, hsame⟩ := X21.leave (v := some (.int (1 : Int32))) (hlocks := hlk) (fun h => by rw [Bd.returns] at h; cases h)
            refine Done.fin (retN X21 hx (t := .boolean) Bd.returns (by simp) (hb hby at_108) hr) hrun hended ⟨_, _, rfl, ?_, ⟨_, rfl⟩, hW, hsame.mono (by decide) (by decide)⟩
            show Qrm0 Z x0 x1 w_STRING w_NON_EMPTY_ARRAY w_OPTIONAL_STRING w_ARRAY h0 n0 _ T21.heap _
            rw [e21]
            exact ⟨rfl, N21⟩
          · refine Done.st (B := T21.setTop (mkF m 107 #[.val (.int x0), .val (.int x1), .val (.int (x0 &&& (3 : Int32))), .val (.ref w_ARRAY), .val (.int (1 : Int32))] [])) (fun _ k => XS.icmpYes X21.here hx rfl (pc0 := 100) (pc' := 107) rfl (hb hby at_100) rfl (feq hc100).2 (by decide) (by decide) k) ?_
            refine Done.st (B := T21.setTop (mkF m 108 #[.val (.int x0), .val (.int x1), .val (.int (x0 &&& (3 : Int32))), .val (.ref w_ARRAY), .val (.int (1 : Int32))] [(.int (0 : Int32))])) (fun _ k => XS.iconst X21.here hx rfl (hb hby at_107) k) ?_
            exact (hc100 (by rw [own_s3]; simp [hc5, hc29, hc57, hc83])).elim
set_option maxRecDepth 65536 in
set_option maxHeartbeats 40000000 in
theorem comes_1 {Post : Tables → Env → Array Value → State → Outcome → State → Prop} (hpost : ∀ tb e args s v u, (limb_1_1.after args s (.returned v) u = true ∧ limb_1_2.after args s (.returned v) u = true ∧ True) → FrameEnd s (.returned v) u (Jvm.fieldLocs frame_1_writes args s ++ Jvm.arrayLocs frame_1_arrays args s ++ Jvm.staticLocs frame_1_statics s) 0 0 → Post tb e args s (.returned v) u) :
    ArmFor flags0 classFile x code maxLocals ret World_1 tables_1 room_1 Calls_1 rest_1 Pre_1 Post := by
  intro l hfl _ _ p e ha hc hk s m args below hf hA hF happ hP
  obtain ⟨hcalls, hrest, hpre⟩ := hP
  obtain ⟨-, -, -, hnamed, -, -, -, hat⟩ := (Spec.applies_iff hf).mp happ
  obtain ⟨hg, hn⟩ := and_e (Cond.before_iff.mp (show (Jvm.Cond.and given_1 narrow_1).before args s = true from hpre))
  obtain ⟨g1, g2⟩ := and_e hg
  obtain ⟨g3, g4⟩ := and_e g2
  obtain ⟨w0, w1, rfl⟩ : ∃ w0 w1 : Value, args = #[w0, w1] := by
    have hs : args.size = 2 := by simpa [Cond.value, given_1] using g1
    obtain ⟨L⟩ := args
    match L, hs with
    | [w0, w1], _ => exact ⟨w0, w1, rfl⟩
  have hw := fun d (hd : d ∈ tables_1) => atoms_spec (ws := Jvm.Cond.code x code maxLocals ret :: tables_1) hat d (List.mem_cons_of_mem _ hd)
  have hfit : Fit s := fun {y c} hc i hi => by
    obtain ⟨ha, rfl⟩ := Array.getElem?_eq_some_iff.mp hc
    have q := List.all_eq_true.mp ((Array.all_eq_true_iff_forall_mem.mp hF) _ (Array.getElem_mem ha)) i (List.mem_range.mpr hi)
    simpa [Array.getElem?_eq_getElem hi] using q
  obtain ⟨i0, ei0⟩ := is_v g3
  obtain rfl : w0 = (.int i0) := Option.some.inj ei0
  obtain ⟨i1, ei1⟩ := is_v g4
  obtain rfl : w1 = (.int i1) := Option.some.inj ei1
  obtain ⟨na1, nb1⟩ := and_e hn
  obtain ⟨na2, nb2⟩ := and_e nb1
  obtain ⟨na3, nb3⟩ := and_e nb2
  obtain ⟨na4, nb4⟩ := and_e nb3
  obtain ⟨na5, nb5⟩ := and_e nb4
  obtain ⟨na6, nb6⟩ := and_e nb5
  obtain ⟨na7, nb7⟩ := and_e nb6
  obtain ⟨na8, nb8⟩ := and_e nb7
  obtain ⟨na9, nb9⟩ := and_e nb8
  obtain ⟨na10, nb10⟩ := and_e nb9
  obtain ⟨na11, nb11⟩ := and_e nb10
  obtain ⟨w_STRING, ev_STRING⟩ := exa_v na1
  have S_STRING := Sta.start ev_STRING (Or.inr ⟨(hw _ (List.mem_of_getElem? (i := 1) rfl)), (hw _ (List.mem_of_getElem? (i := 2) rfl))⟩)
  have E_STRING := Exa.start ev_STRING na1
  obtain ⟨w_NON_EMPTY_ARRAY, ev_NON_EMPTY_ARRAY⟩ := exa_v na4
  have S_NON_EMPTY_ARRAY := Sta.start ev_NON_EMPTY_ARRAY (Or.inr ⟨(hw _ (List.mem_of_getElem? (i := 1) rfl)), (hw _ (List.mem_of_getElem? (i := 13) rfl))⟩)
  have E_NON_EMPTY_ARRAY := Exa.start ev_NON_EMPTY_ARRAY na4
  obtain ⟨w_OPTIONAL_STRING, ev_OPTIONAL_STRING⟩ := exa_v na7
  have S_OPTIONAL_STRING := Sta.start ev_OPTIONAL_STRING (Or.inr ⟨(hw _ (List.mem_of_getElem? (i := 1) rfl)), (hw _ (List.mem_of_getElem? (i := 15) rfl))⟩)
  have E_OPTIONAL_STRING := Exa.start ev_OPTIONAL_STRING na7
  obtain ⟨w_ARRAY, ev_ARRAY⟩ := exa_v na10
  have S_ARRAY := Sta.start ev_ARRAY (Or.inr ⟨(hw _ (List.mem_of_getElem? (i := 1) rfl)), (hw _ (List.mem_of_getElem? (i := 17) rfl))⟩)
  have E_ARRAY := Exa.start ev_ARRAY na10
  have F_STRING_fewest := Fld.start ((fld_at ev_STRING).symm.trans (own_eqv na2 (Term.int_eval _)))
  have F_STRING_array := Fld.start ((fld_at ev_STRING).symm.trans (own_eqv na3 (Term.int_eval _)))
  have F_NON_EMPTY_ARRAY_fewest := Fld.start ((fld_at ev_NON_EMPTY_ARRAY).symm.trans (own_eqv na5 (Term.int_eval _)))
  have F_NON_EMPTY_ARRAY_array := Fld.start ((fld_at ev_NON_EMPTY_ARRAY).symm.trans (own_eqv na6 (Term.int_eval _)))
  have F_OPTIONAL_STRING_fewest := Fld.start ((fld_at ev_OPTIONAL_STRING).symm.trans (own_eqv na8 (Term.int_eval _)))
  have F_OPTIONAL_STRING_array := Fld.start ((fld_at ev_OPTIONAL_STRING).symm.trans (own_eqv na9 (Term.int_eval _)))
  have F_ARRAY_fewest := Fld.start ((fld_at ev_ARRAY).symm.trans (own_eqv na11 (Term.int_eval _)))
  have F_ARRAY_array := Fld.start ((fld_at ev_ARRAY).symm.trans (own_eqv nb11 (Term.int_eval _)))
  obtain ⟨n, o, h1, h2, h3, _, L, rfl, ⟨rfl, N⟩, hq⟩ := rm0 l s _ hw tables_1 i0 i1 w_STRING w_NON_EMPTY_ARRAY w_OPTIONAL_STRING w_ARRAY s.heap s.heap.size (Nat.le_refl _) S_STRING E_STRING S_NON_EMPTY_ARRAY E_NON_EMPTY_ARRAY S_OPTIONAL_STRING E_OPTIONAL_STRING S_ARRAY E_ARRAY F_STRING_fewest F_STRING_array F_NON_EMPTY_ARRAY_fewest F_NON_EMPTY_ARRAY_array F_OPTIONAL_STRING_fewest F_OPTIONAL_STRING_array F_ARRAY_fewest F_ARRAY_array p e ha hc hk s m _ below hf ((Spec.applies_iff_loose hf).mp happ).1 ⟨rfl, State.Warmed39.refl s, rfl⟩ trivial
  refine ⟨n, _, h1, h2, h3, hpost _ _ _ _ _ _ ⟨Cond.after_iff.mpr rfl, Cond.after_iff.mpr (eq_i res_at (Term.int_eval (1)) rfl), trivial⟩ ⟨hq.1, hq.2.1, (hq.2.2.sift fun y hy => Or.inr (N y hy)).mono (by decide) (by decide)⟩⟩
theorem main_1_1 : Claimed_1_1 := comes_1 fun _ _ _ _ _ _ h hF => ⟨h.1, hF⟩
theorem main_1_2 : Claimed_1_2 := comes_1 fun _ _ _ _ _ _ h hF => ⟨h.2.1, hF⟩
end Jvm.Pilot.@@N@@
namespace Jvm.Pilot.@@N@@
open Jvm Jvm.ClassFile Sem Op Lib Jvm.Free Jvm.Stand Jvm.Pilot.@@N@@.Jvm.D
/-! MADE BY PROGRAM (witnessworld.py) out of the Statement's table words and the real class files: 12 classes; the members and pool entries that the words name. The judged class is class 1, her method 1. -/
namespace start1
open Jvm.ClassFile
def u (s : String) : CpInfo := .utf8 (stringToUtf16 s)
/-- a pool by its gaps: so many unusable entries, then the entry; so many at the end -/
def gap : Nat → List CpInfo → List CpInfo
  | 0, r => r
  | n + 1, r => .unusable :: gap n r
def poolList (es : List (Nat × CpInfo)) (last : Nat) : List CpInfo := es.foldr (fun e r => gap e.1 (e.2 :: r)) (gap last [])
def pool (es : List (Nat × CpInfo)) (last : Nat) : Array CpInfo := ⟨poolList es last⟩
def fileOf (pool : Array CpInfo) (this : Nat) (attrs : Array Attribute := #[]) (ms : Array MethodInfo := #[]) (fl : Nat := 33) (sup : Nat := 0) (ifs : Array Nat := #[]) (fds : Array FieldInfo := #[]) : ClassFile where
  minorVersion := 0
  majorVersion := 65
  constantPool := pool
  accessFlags := fl
  thisClass := this
  superClass := sup
  interfaces := ifs
  fields := fds
  methods := ms
  attributes := attrs
def plain (name : String) (sup : Option ClassId) : Class where
  name := name
  kind := .ordinary
  loader := none
  accessFlags := 33
  super := sup
  interfaces := #[]
  cf := none
  fields := #[]
  methods := #[]
  instanceTypes := #[]
  staticTypes := #[]
  resolved := #[]
  callSites := []
  init := .initialized
  statics := none
  mirror := none

def pool0 : Array CpInfo := pool [(5, u "<init>"), (0, u "()V"), (1, .class_ 10), (1, u "java/lang/Object")] 113

def k0m0 : Method := { name := "<init>", desc := "()V", sig := { parameters := [], returnType := none }, accessFlags := 1, code := none }
/-- java/lang/Object -/
def k0 : Class := { plain "java/lang/Object" none with
  accessFlags := 33
  interfaces := #[]
  cf := some (fileOf pool0 8 #[] #[{ accessFlags := 1, nameIndex := 5, descriptorIndex := 6, attributes := #[] }] 33 0 #[] #[])
  fields := #[]
  methods := #[k0m0]
  instanceTypes := #[]
  staticTypes := #[]
  resolved := Array.replicate 124 none
  statics := none }

def pool1 : Array CpInfo := pool [(2, .class_ 4), (1, u "java/lang/Object"), (0, u "<init>"), (0, u "()V"), (0, .fieldref 8 9), (0, .class_ 10), (0, .nameAndType 11 12), (0, u "com/example/nameward/nameward/model/Shape"), (0, u "STRING"), (0, u "Lcom/example/nameward/nameward/model/Shape;"), (0, .fieldref 8 14), (0, .nameAndType 15 12), (0, u "OPTIONAL_STRING"), (0, .fieldref 8 17), (0, .nameAndType 18 12), (0, u "NON_EMPTY_ARRAY"), (0, .fieldref 8 20), (0, .nameAndType 21 12), (0, u "ARRAY"), (0, .methodref 8 23), (0, .nameAndType 24 25), (0, u "fits"), (0, u "(I)Z"), (0, .class_ 27), (0, u "com/example/nameward/nameward/model/ShapeFitsPinLaw"), (2, u "law"), (0, u "(II)Z")] 3

def k1m0 : Method := { name := "<init>", desc := "()V", sig := { parameters := [], returnType := none }, accessFlags := 1, code := none }
def k1c1 : Code := { maxStack := 2, maxLocals := 5, code := code, exceptionTable := #[], attributes := #[] }
def k1m1 : Method := { name := "law", desc := "(II)Z", sig := { parameters := [.int, .int], returnType := some .boolean }, accessFlags := 9, code := some k1c1 }
/-- com/example/nameward/nameward/model/ShapeFitsPinLaw -/
def k1 : Class := { plain "com/example/nameward/nameward/model/ShapeFitsPinLaw" (some 0) with
  accessFlags := 49
  interfaces := #[]
  cf := some (fileOf pool1 26 #[] #[{ accessFlags := 1, nameIndex := 5, descriptorIndex := 6, attributes := #[] }, { accessFlags := 9, nameIndex := 30, descriptorIndex := 31, attributes := #[] }] 49 2 #[] #[])
  fields := #[]
  methods := #[k1m0, k1m1]
  instanceTypes := #[]
  staticTypes := #[]
  resolved := Array.replicate 35 none
  statics := none }

def pool2 : Array CpInfo := pool [(1, .class_ 2), (0, u "java/lang/constant/Constable"), (0, .class_ 4), (0, u "java/lang/Object")] 6

/-- java/lang/constant/Constable -/
def k2 : Class := { plain "java/lang/constant/Constable" (some 0) with
  accessFlags := 1537
  interfaces := #[]
  cf := some (fileOf pool2 1 #[] #[] 1537 3 #[] #[])
  fields := #[]
  methods := #[]
  instanceTypes := #[]
  staticTypes := #[]
  resolved := Array.replicate 11 none
  statics := none }

def pool3 : Array CpInfo := pool [(1, .class_ 2), (0, u "java/lang/Comparable"), (0, .class_ 4), (0, u "java/lang/Object")] 7

/-- java/lang/Comparable -/
def k3 : Class := { plain "java/lang/Comparable" (some 0) with
  accessFlags := 1537
  interfaces := #[]
  cf := some (fileOf pool3 1 #[] #[] 1537 3 #[] #[])
  fields := #[]
  methods := #[]
  instanceTypes := #[]
  staticTypes := #[]
  resolved := Array.replicate 12 none
  statics := none }

def pool4 : Array CpInfo := pool [(1, .class_ 2), (0, u "java/io/Serializable"), (0, .class_ 4), (0, u "java/lang/Object")] 2

/-- java/io/Serializable -/
def k4 : Class := { plain "java/io/Serializable" (some 0) with
  accessFlags := 1537
  interfaces := #[]
  cf := some (fileOf pool4 1 #[] #[] 1537 3 #[] #[])
  fields := #[]
  methods := #[]
  instanceTypes := #[]
  staticTypes := #[]
  resolved := Array.replicate 7 none
  statics := none }

def pool5 : Array CpInfo := pool [(2, .class_ 4), (1, u "java/lang/Enum"), (0, u "name"), (0, u "Ljava/lang/String;"), (2, u "ordinal"), (0, u "I"), (1, .class_ 14), (1, u "java/lang/Object"), (4, u "hash"), (86, .class_ 108), (1, u "java/lang/Enum$EnumDesc"), (2, .class_ 112), (0, u "java/lang/constant/Constable"), (0, .class_ 114), (0, u "java/lang/Comparable"), (0, .class_ 116), (0, u "java/io/Serializable")] 87

/-- java/lang/Enum -/
def k5 : Class := { plain "java/lang/Enum" (some 0) with
  accessFlags := 1057
  interfaces := #[2, 3, 4]
  cf := some (fileOf pool5 2 #[.nestMembers #[106]] #[] 1057 12 #[111, 113, 115] #[{ accessFlags := 18, nameIndex := 5, descriptorIndex := 6, attributes := #[] }, { accessFlags := 18, nameIndex := 9, descriptorIndex := 10, attributes := #[] }, { accessFlags := 2, nameIndex := 19, descriptorIndex := 10, attributes := #[] }])
  fields := #[{ name := "name", type := (.object "java/lang/String"), accessFlags := 18, slot := 0, constantValue := 0 }, { name := "ordinal", type := .int, accessFlags := 18, slot := 1, constantValue := 0 }, { name := "hash", type := .int, accessFlags := 2, slot := 2, constantValue := 0 }]
  methods := #[]
  instanceTypes := #[(.object "java/lang/String"), .int, .int]
  staticTypes := #[]
  resolved := Array.replicate 204 none
  statics := none }

def pool6 : Array CpInfo := pool [(1, .class_ 2), (0, u "com/example/nameward/nameward/model/Shape"), (2, u "STRING"), (0, u "Lcom/example/nameward/nameward/model/Shape;"), (2, u "OPTIONAL_STRING"), (2, u "NON_EMPTY_ARRAY"), (2, u "ARRAY"), (2, u "$VALUES"), (0, u "[Lcom/example/nameward/nameward/model/Shape;"), (6, .class_ 28), (1, u "java/lang/Enum"), (6, .fieldref 1 36), (0, .nameAndType 37 38), (0, u "array"), (0, u "Z"), (0, .fieldref 1 40), (0, .nameAndType 41 42), (0, u "fewest"), (0, u "I"), (20, u "fits"), (0, u "(I)Z")] 6

def k6c0 : Code := { maxStack := 2, maxLocals := 2, code := prog_29_method_5_code, exceptionTable := #[], attributes := #[] }
def k6m0 : Method := { name := "fits", desc := "(I)Z", sig := { parameters := [.int], returnType := some .boolean }, accessFlags := 1, code := some k6c0 }
/-- com/example/nameward/nameward/model/Shape -/
def k6 : Class := { plain "com/example/nameward/nameward/model/Shape" (some 5) with
  accessFlags := 16433
  interfaces := #[]
  cf := some (fileOf pool6 1 #[] #[{ accessFlags := 1, nameIndex := 63, descriptorIndex := 64, attributes := #[] }] 16433 26 #[] #[{ accessFlags := 16409, nameIndex := 5, descriptorIndex := 6, attributes := #[] }, { accessFlags := 16409, nameIndex := 9, descriptorIndex := 6, attributes := #[] }, { accessFlags := 16409, nameIndex := 12, descriptorIndex := 6, attributes := #[] }, { accessFlags := 16409, nameIndex := 15, descriptorIndex := 6, attributes := #[] }, { accessFlags := 18, nameIndex := 37, descriptorIndex := 38, attributes := #[] }, { accessFlags := 18, nameIndex := 41, descriptorIndex := 42, attributes := #[] }, { accessFlags := 4122, nameIndex := 18, descriptorIndex := 19, attributes := #[] }])
  fields := #[{ name := "STRING", type := (.object "com/example/nameward/nameward/model/Shape"), accessFlags := 16409, slot := 0, constantValue := 0 }, { name := "OPTIONAL_STRING", type := (.object "com/example/nameward/nameward/model/Shape"), accessFlags := 16409, slot := 1, constantValue := 0 }, { name := "NON_EMPTY_ARRAY", type := (.object "com/example/nameward/nameward/model/Shape"), accessFlags := 16409, slot := 2, constantValue := 0 }, { name := "ARRAY", type := (.object "com/example/nameward/nameward/model/Shape"), accessFlags := 16409, slot := 3, constantValue := 0 }, { name := "array", type := .boolean, accessFlags := 18, slot := 3, constantValue := 0 }, { name := "fewest", type := .int, accessFlags := 18, slot := 4, constantValue := 0 }, { name := "$VALUES", type := (.array (.object "com/example/nameward/nameward/model/Shape")), accessFlags := 4122, slot := 4, constantValue := 0 }]
  methods := #[k6m0]
  instanceTypes := #[(.object "java/lang/String"), .int, .int, .boolean, .int]
  staticTypes := #[(.object "com/example/nameward/nameward/model/Shape"), (.object "com/example/nameward/nameward/model/Shape"), (.object "com/example/nameward/nameward/model/Shape"), (.object "com/example/nameward/nameward/model/Shape"), (.array (.object "com/example/nameward/nameward/model/Shape"))]
  resolved := Array.replicate 71 none
  statics := some 0 }

def pool7 : Array CpInfo := pool [(1, u "java/lang/Cloneable"), (0, .class_ 1), (0, u "java/lang/Object"), (0, .class_ 3)] 3

/-- java/lang/Cloneable -/
def k7 : Class := { plain "java/lang/Cloneable" (some 0) with
  accessFlags := 1537
  interfaces := #[]
  cf := some (fileOf pool7 2 #[] #[] 1537 4 #[] #[])
  fields := #[]
  methods := #[]
  instanceTypes := #[]
  staticTypes := #[]
  resolved := Array.replicate 8 none
  statics := none }

/-- the primitive byte -/
def k8 : Class := { plain "byte" none with kind := .primitive 'B', accessFlags := 0x411 }
/-- [B -/
def k9 : Class := { plain "[B" (some 0) with kind := .array 8 .byte, interfaces := #[7, 4], accessFlags := 1041 }

/-- the primitive int -/
def k10 : Class := { plain "int" none with kind := .primitive 'I', accessFlags := 0x411 }
/-- [I -/
def k11 : Class := { plain "[I" (some 0) with kind := .array 10 .int, interfaces := #[7, 4], accessFlags := 1041 }

def heap : Heap := #[{ cls := 6, slots := #[.ref 1, .ref 2, .ref 3, .ref 4, .null], vm := .statics 6 },
  { cls := 6, slots := #[.null, .int 0, .int 0, .int 0, .int 1], vm := .none },
  { cls := 6, slots := #[.null, .int 1, .int 0, .int 0, .int 0], vm := .none },
  { cls := 6, slots := #[.null, .int 2, .int 0, .int 1, .int 1], vm := .none },
  { cls := 6, slots := #[.null, .int 3, .int 0, .int 1, .int 0], vm := .none }]
def classes : Array Class := #[k0, k1, k2, k3, k4, k5, k6, k7, k8, k9, k10, k11]
def interned : List (Array UInt16 × Addr) := []
def slotsUsed : Nat := 25
def theMethod : MethodId := ⟨1, 1⟩
def args0 : Array Value := #[.int 5, .int 2]
def aboutOver (below : List Frame) : State where
  vm := { classes := classes, interned := interned.toArray }
  heap := heap
  slotsUsed := slotsUsed
  threads := #[{ frames := .invoking theMethod args0 :: below }]
def below0 : List Frame := [.native { method := ⟨0, 0⟩, args := #[] }]
def about1 : State := aboutOver below0
def p0 : Program := .bare "" "" ""
def e0 : Env := launch0.env 0 0 0
theorem w_frames : about1.frames = Frame.invoking theMethod args0 :: below0 := rfl
set_option maxRecDepth 65536 in
theorem w_args : argsFit about1.vm theMethod args0 = true := by decide +kernel
set_option maxRecDepth 65536 in
theorem w_heap : heapFits about1 = true := by decide +kernel
set_option maxRecDepth 65536 in
theorem w_runnable : about1.curStatus? = some .runnable := by decide +kernel
set_option maxRecDepth 65536 in
theorem w_alone : about1.alone = true := by decide +kernel
set_option maxRecDepth 65536 in
theorem w_named : about1.methodNamed? x = some theMethod := by decide +kernel
set_option maxRecDepth 65536 in
theorem w_hears : about1.hears theMethod below0 = true := by decide +kernel
set_option maxRecDepth 65536 in
theorem w_ripe : about1.ripe theMethod args0 below0 = true := by decide +kernel
theorem w_running : about1.status = .running := rfl
set_option maxRecDepth 65536 in
theorem w_room : about1.hasRoom e0.platform room_1 = true :=
  launch0.hasRoom_least _ room_1 (by decide +kernel) (by decide +kernel) (by decide +kernel) (by decide +kernel) (by decide +kernel) (by decide +kernel)
theorem allAtoms_all (ts : List Jvm.Cond) (a : Array Jvm.Value) (st : Jvm.State) : (allAtoms ts).before a st = ts.all (fun c => c.before a st) := by
  induction ts with
  | nil => rfl
  | cons c t ih =>
    show (Jvm.Cond.and c (allAtoms t)).before a st = _
    rw [Jvm.Cond.before_and, ih, List.all_cons]
def words1 : List Jvm.Cond := Jvm.Cond.code x code maxLocals ret :: tables_1
/-- a 'code' word, met by the world's own term for the bytes: nothing is compared byte by byte -/
theorem code_word {y : MethodName} {bytes : ByteArray} {mx : Nat} {rt : Option FieldType} {a : Array Value} {s : State} {m : MethodId} {meth : Method} {c : Code} (h1 : s.methodNamed? y = some m) (h2 : s.vm.method? m = some meth) (h3 : meth.code = some c) (h4 : c.code = bytes)
    (h5 : (c.maxLocals == mx && c.exceptionTable.isEmpty && decide (c.maxStack ≤ mostOperands) && decide (meth.sig.returnType = rt) && !meth.locks && decide (parseMethodDescriptor y.desc = some meth.sig)) = true) : (Jvm.Cond.code y bytes mx rt).before a s = true := by
  simp only [Bool.and_eq_true, beq_iff_eq, Bool.not_eq_true', decide_eq_true_eq] at h5
  obtain ⟨⟨⟨⟨⟨g1, g2⟩, g3⟩, g4⟩, g5⟩, g6⟩ := h5
  simp [Cond.before, Cond.holds, Cond.value, h1, h2, h3, h4, g1, g2, g3, g4, g5, g6]
def isCode : Jvm.Cond → Bool
  | .code _ _ _ _ => true
  | _ => false
theorem all_split {L : List Jvm.Cond} {P : Jvm.Cond → Bool} (h1 : L.all (fun c => isCode c || P c) = true) (h2 : ∀ c ∈ L.filter isCode, P c = true) : L.all P = true := by
  refine List.all_eq_true.mpr fun c hc => ?_
  have h := List.all_eq_true.mp h1 c hc
  rcases Bool.eq_false_or_eq_true (isCode c) with hi | hi
  · exact h2 c (List.mem_filter.mpr ⟨hc, hi⟩)
  · simpa [hi] using h
set_option maxRecDepth 65536 in
theorem w_c0 : (Jvm.Cond.code x code maxLocals ret).before args0 about1 = true := code_word (m := ⟨1, 1⟩) (meth := k1m1) (c := k1c1) (by decide +kernel) rfl rfl rfl (by decide +kernel)
set_option maxRecDepth 65536 in
theorem w_c1 : (Jvm.Cond.code ({ cls := "com/example/nameward/nameward/model/Shape", name := "fits", desc := "(I)Z" } : Jvm.MethodName) prog_29_method_5_code (2 : Nat) (Option.some Jvm.ClassFile.FieldType.boolean)).before args0 about1 = true := code_word (m := ⟨6, 0⟩) (meth := k6m0) (c := k6c0) (by decide +kernel) rfl rfl rfl (by decide +kernel)
def codes1 : List Jvm.Cond := [Jvm.Cond.code x code maxLocals ret, Jvm.Cond.code ({ cls := "com/example/nameward/nameward/model/Shape", name := "fits", desc := "(I)Z" } : Jvm.MethodName) prog_29_method_5_code (2 : Nat) (Option.some Jvm.ClassFile.FieldType.boolean)]
set_option maxRecDepth 65536 in
theorem codes_eq : words1.filter isCode = codes1 := rfl
theorem w_codes : ∀ c ∈ words1.filter isCode, c.before args0 about1 = true := by
  rw [codes_eq]
  intro c hc
  simp only [codes1, List.mem_cons, List.not_mem_nil, or_false] at hc
  rcases hc with rfl | rfl
  · exact w_c0
  · exact w_c1
set_option maxRecDepth 65536 in
theorem w_t1 : words1.all (fun c => isCode c || c.before args0 about1) = true := by decide +kernel
theorem w_tables : (allAtoms (Jvm.Cond.code x code maxLocals ret :: tables_1)).before args0 about1 = true := by
  rw [allAtoms_all]
  show words1.all (fun c => c.before args0 about1) = true
  refine all_split ?_ w_codes
  rw [w_t1]
set_option maxRecDepth 65536 in
theorem w_case : (Jvm.Cond.and given_1 narrow_1).before args0 about1 = true := by decide +kernel
theorem w_applies : (headSpec (Jvm.Cond.code x code maxLocals ret :: tables_1) room_1).applies x e0.platform about1 = true :=
  (Spec.applies_iff w_frames).mpr ⟨w_running, w_runnable, w_alone, w_named, w_hears, w_ripe, w_room, w_tables⟩
theorem atStart : AtStart classFile x code maxLocals ret World_1 tables_1 room_1 Calls_1 rest_1 Pre_1 launch0 p0 e0 about1 theMethod args0 below0 :=
  ⟨lists_1, trivial, launch0.admits_env _ _ _, launch0.least_env, fairChoices_fair.cas, fairChoices_fair.clock, w_frames, w_args, w_heap, w_applies, trivial, trivial, w_case⟩
end start1
theorem witness_1 : WitnessClaimed_1 := ⟨start1.p0, start1.e0, start1.about1, start1.theMethod, start1.args0, start1.below0, start1.atStart⟩
end Jvm.Pilot.@@N@@
