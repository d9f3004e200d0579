import JvmDerived
import JvmDerived.Pilot.@@N@@Statement
import JvmDerived.Pilot.@@N@@Code
set_option linter.unusedVariables false
set_option linter.unusedSimpArgs false
namespace Jvm.RoadKit
open Sem ClassFile Op Lib Jvm.Stand Jvm.Free Jvm.LawKit
section New
variable {p : Program} {l : Launch} {e : Env} {R : Room} {s : State} {m : MethodId} {args : Array Value} {below : List Frame} {meth : Method} {c : Code} {T : State} {locs : List Loc} {cells slots : Nat}
theorem retI (X : Stand p l e R s m args below meth c T locs cells slots) (hx : p.tables.exec = Jvm.exec) {pc : Nat} {Ls : Array Slot} {z : Int32} {rest : List Value} (hret : meth.sig.returnType = some .int) (hd : decode c.code pc = .ok (.ireturn, 1)) {fs : List Frame}
    (hl : ∀ (f : JFrame) (acts : List Action), f.method = m → f.locked = none → f.entered = [] → (doReturn e (T.setTop f) acts (some (.int z))).1 = T.setFrames fs) : Steps p.tables e below (T.setTop (mkF m pc Ls (.int z :: rest))) (T.setFrames fs) :=
  retOut X hx hret rfl (Or.inl ⟨rfl, Or.inl rfl, _, rfl⟩) hd hl
theorem retJ (X : Stand p l e R s m args below meth c T locs cells slots) (hx : p.tables.exec = Jvm.exec) {pc : Nat} {Ls : Array Slot} {z : Int64} {rest : List Value} (hret : meth.sig.returnType = some .long) (hd : decode c.code pc = .ok (.lreturn, 1)) {fs : List Frame}
    (hl : ∀ (f : JFrame) (acts : List Action), f.method = m → f.locked = none → f.entered = [] → (doReturn e (T.setTop f) acts (some (.long z))).1 = T.setFrames fs) : Steps p.tables e below (T.setTop (mkF m pc Ls (.long z :: rest))) (T.setFrames fs) :=
  retOut X hx hret rfl (Or.inr (Or.inl ⟨rfl, rfl, _, rfl⟩)) hd hl
theorem retR (X : Stand p l e R s m args below meth c T locs cells slots) (hx : p.tables.exec = Jvm.exec) {pc : Nat} {Ls : Array Slot} {w : Value} {t : FieldType} {rest : List Value} (hret : meth.sig.returnType = some t) (ht : t.isReference = true) (hv : w.isRef = true) (hd : decode c.code pc = .ok (.areturn, 1)) {fs : List Frame}
    (hl : ∀ (f : JFrame) (acts : List Action), f.method = m → f.locked = none → f.entered = [] → (doReturn e (T.setTop f) acts (some w)).1 = T.setFrames fs) : Steps p.tables e below (T.setTop (mkF m pc Ls (w :: rest))) (T.setFrames fs) :=
  retOut X hx hret (by cases t <;> simp_all [narrow, FieldType.isReference]) (Or.inr (Or.inr (Or.inr (Or.inr ⟨rfl, ht, hv⟩)))) hd hl
end New
end Jvm.RoadKit
namespace Jvm.Pilot.@@N@@
open Jvm Jvm.ClassFile Sem Op Lib Jvm.Free Jvm.Stand Jvm.LawKit Jvm.RoadKit Bundle Jvm.Pilot.@@N@@.Jvm.D
def Done (p : Program) (e : Env) (below : List Frame) (P : State → Outcome → Prop) (A : State) : Prop := ∃ s₂ o, Steps p.tables e below A s₂ ∧ s₂.status = .running ∧ Ended s₂ below o ∧ P s₂ o
theorem Done.st {p : Program} {e : Env} {below : List Frame} {P : State → Outcome → Prop} {A B : State} (k : ∀ t, Steps p.tables e below B t → Steps p.tables e below A t) (h : Done p e below P B) : Done p e below P A := by
  obtain ⟨s₂, o, h1, h2⟩ := h; exact ⟨s₂, o, k _ h1, h2⟩
theorem Done.fin {p : Program} {e : Env} {below : List Frame} {P : State → Outcome → Prop} {A U : State} {o : Outcome} (k : Steps p.tables e below A U) (h1 : U.status = .running) (h2 : Ended U below o) (h3 : P U o) : Done p e below P A := ⟨U, o, k, h1, h2, h3⟩
theorem d1_0 : decode prog_81_method_1_code 0 = .ok (.aload_n 0, 1) := by decide +kernel
theorem d1_1 : decode prog_81_method_1_code 1 = .ok (.invokespecial 1, 3) := by decide +kernel
theorem d1_4 : decode prog_81_method_1_code 4 = .ok (.aload_n 0, 1) := by decide +kernel
theorem d1_5 : decode prog_81_method_1_code 5 = .ok (.lload_n 1, 1) := by decide +kernel
theorem d1_6 : decode prog_81_method_1_code 6 = .ok (.putfield 7, 3) := by decide +kernel
theorem d1_9 : decode prog_81_method_1_code 9 = .ok (.return_, 1) := by decide +kernel
theorem d3_0 : decode prog_81_method_2_code 0 = .ok (.aload_n 0, 1) := by decide +kernel
theorem d3_1 : decode prog_81_method_2_code 1 = .ok (.dup, 1) := by decide +kernel
theorem d3_2 : decode prog_81_method_2_code 2 = .ok (.getfield 13, 3) := by decide +kernel
theorem d3_5 : decode prog_81_method_2_code 5 = .ok (.lload_n 1, 1) := by decide +kernel
theorem d3_6 : decode prog_81_method_2_code 6 = .ok (.ladd, 1) := by decide +kernel
theorem d3_7 : decode prog_81_method_2_code 7 = .ok (.putfield 13, 3) := by decide +kernel
theorem d3_10 : decode prog_81_method_2_code 10 = .ok (.return_, 1) := by decide +kernel
theorem d4_0 : decode prog_81_method_7_code 0 = .ok (.aload_n 0, 1) := by decide +kernel
theorem d4_1 : decode prog_81_method_7_code 1 = .ok (.getfield 7, 3) := by decide +kernel
theorem d4_4 : decode prog_81_method_7_code 4 = .ok (.aload_n 0, 1) := by decide +kernel
theorem d4_5 : decode prog_81_method_7_code 5 = .ok (.getfield 13, 3) := by decide +kernel
theorem d4_8 : decode prog_81_method_7_code 8 = .ok (.lsub, 1) := by decide +kernel
theorem d4_9 : decode prog_81_method_7_code 9 = .ok (.lstore_n 1, 1) := by decide +kernel
theorem d4_10 : decode prog_81_method_7_code 10 = .ok (.lload_n 1, 1) := by decide +kernel
theorem d4_11 : decode prog_81_method_7_code 11 = .ok (.lconst 0, 1) := by decide +kernel
theorem d4_12 : decode prog_81_method_7_code 12 = .ok (.lcmp, 1) := by decide +kernel
theorem d4_13 : decode prog_81_method_7_code 13 = .ok (.ifCond .ge 8, 3) := by decide +kernel
theorem d4_16 : decode prog_81_method_7_code 16 = .ok (.lconst 0, 1) := by decide +kernel
theorem d4_17 : decode prog_81_method_7_code 17 = .ok (.lstore_n 3, 1) := by decide +kernel
theorem d4_18 : decode prog_81_method_7_code 18 = .ok (.goto 22, 3) := by decide +kernel
theorem d4_21 : decode prog_81_method_7_code 21 = .ok (.lload_n 1, 1) := by decide +kernel
theorem d4_22 : decode prog_81_method_7_code 22 = .ok (.ldc2_w 18, 3) := by decide +kernel
theorem d4_25 : decode prog_81_method_7_code 25 = .ok (.lcmp, 1) := by decide +kernel
theorem d4_26 : decode prog_81_method_7_code 26 = .ok (.ifCond .ne 10, 3) := by decide +kernel
theorem d4_29 : decode prog_81_method_7_code 29 = .ok (.ldc2_w 18, 3) := by decide +kernel
theorem d4_32 : decode prog_81_method_7_code 32 = .ok (.lstore_n 3, 1) := by decide +kernel
theorem d4_33 : decode prog_81_method_7_code 33 = .ok (.goto 7, 3) := by decide +kernel
theorem d4_36 : decode prog_81_method_7_code 36 = .ok (.lload_n 1, 1) := by decide +kernel
theorem d4_37 : decode prog_81_method_7_code 37 = .ok (.lconst 1, 1) := by decide +kernel
theorem d4_38 : decode prog_81_method_7_code 38 = .ok (.ladd, 1) := by decide +kernel
theorem d4_39 : decode prog_81_method_7_code 39 = .ok (.lstore_n 3, 1) := by decide +kernel
theorem d4_40 : decode prog_81_method_7_code 40 = .ok (.lload_n 3, 1) := by decide +kernel
theorem d4_41 : decode prog_81_method_7_code 41 = .ok (.lreturn, 1) := by decide +kernel
theorem d5_0 : decode prog_81_method_8_code 0 = .ok (.aload_n 0, 1) := by decide +kernel
theorem d5_1 : decode prog_81_method_8_code 1 = .ok (.getfield 13, 3) := by decide +kernel
theorem d5_4 : decode prog_81_method_8_code 4 = .ok (.aload_n 0, 1) := by decide +kernel
theorem d5_5 : decode prog_81_method_8_code 5 = .ok (.getfield 7, 3) := by decide +kernel
theorem d5_8 : decode prog_81_method_8_code 8 = .ok (.lcmp, 1) := by decide +kernel
theorem d5_9 : decode prog_81_method_8_code 9 = .ok (.ifCond .le 7, 3) := by decide +kernel
theorem d5_12 : decode prog_81_method_8_code 12 = .ok (.iconst 1, 1) := by decide +kernel
theorem d5_13 : decode prog_81_method_8_code 13 = .ok (.goto 4, 3) := by decide +kernel
theorem d5_16 : decode prog_81_method_8_code 16 = .ok (.iconst 0, 1) := by decide +kernel
theorem d5_17 : decode prog_81_method_8_code 17 = .ok (.ireturn, 1) := by decide +kernel
theorem d6_0 : decode prog_81_method_4_code 0 = .ok (.new 8, 3) := by decide +kernel
theorem d6_3 : decode prog_81_method_4_code 3 = .ok (.dup, 1) := by decide +kernel
theorem d6_4 : decode prog_81_method_4_code 4 = .ok (.aload_n 0, 1) := by decide +kernel
theorem d6_5 : decode prog_81_method_4_code 5 = .ok (.getfield 7, 3) := by decide +kernel
theorem d6_8 : decode prog_81_method_4_code 8 = .ok (.invokespecial 26, 3) := by decide +kernel
theorem d6_11 : decode prog_81_method_4_code 11 = .ok (.astore_n 1, 1) := by decide +kernel
theorem d6_12 : decode prog_81_method_4_code 12 = .ok (.aload_n 1, 1) := by decide +kernel
theorem d6_13 : decode prog_81_method_4_code 13 = .ok (.aload_n 0, 1) := by decide +kernel
theorem d6_14 : decode prog_81_method_4_code 14 = .ok (.getfield 13, 3) := by decide +kernel
theorem d6_17 : decode prog_81_method_4_code 17 = .ok (.putfield 13, 3) := by decide +kernel
theorem d6_20 : decode prog_81_method_4_code 20 = .ok (.aload_n 1, 1) := by decide +kernel
theorem d6_21 : decode prog_81_method_4_code 21 = .ok (.areturn, 1) := by decide +kernel
theorem pn_0 : plainName "com/example/percurso/percurso/completeness/Work" = true := by first | (simp [plainName, overriddenIn]; done) | decide +kernel
theorem pn_1 : plainName "com/example/percurso/percurso/completeness/WorkUntilSpentPinLaw" = true := by first | (simp [plainName, overriddenIn]; done) | decide +kernel
theorem pd_0 : parseMethodDescriptor "(J)V" = some ⟨[.long], none⟩ := by decide +kernel
theorem pd_1 : parseMethodDescriptor "()J" = some ⟨[], some .long⟩ := by decide +kernel
theorem pd_2 : parseMethodDescriptor "()Z" = some ⟨[], some .boolean⟩ := by decide +kernel
theorem pd_3 : parseMethodDescriptor "()Lcom/example/percurso/percurso/completeness/Work;" = some ⟨[], some (.object "com/example/percurso/percurso/completeness/Work")⟩ := by decide +kernel
theorem own_ns_exa {Z : State} {h : Heap} {a : Addr} {C : String} (E : Exa Z h a C) : ∃ c : Cell, h[a]? = some c ∧ c.vm.isStatics = false := by obtain ⟨c, _, h1, _, _, h2, _⟩ := E; exact ⟨c, h1, h2⟩
theorem own_sta_keep {Z : State} {h h' : Heap} {C n d : String} {v : Value} {ws : List Addr} (F : Sta Z h C n d v) (K : Keep h h' ws) (q : ∀ x ∈ ws, ∃ c : Cell, h[x]? = some c ∧ c.vm.isStatics = false) : Sta Z h' C n d v := by
  obtain ⟨cf, i, k, f, st, cell, h1, h2, h3, h4, h5, h6, h7⟩ := F
  refine ⟨cf, i, k, f, st, cell, h1, h2, h3, h4, K.2.1 _ _ h5 (fun hm => ?_), h6, h7⟩
  obtain ⟨c, e1, e2⟩ := q _ hm
  rw [h5] at e1
  cases e1
  rw [h6] at e2
  cases e2
theorem own_ins_keep {Z : State} {h h' : Heap} {a : Addr} {C : String} {b : Bool} {ws : List Addr} (F : Ins Z h a C b) (K : Keep h h' ws) : Ins Z h' a C b := by
  obtain ⟨c, cT, h1, h2, h3⟩ := F
  obtain ⟨c', e1, e2, e3, e4⟩ := K.2.2 _ _ h1
  exact ⟨c', cT, e1, h2, by rw [e2, e3]; exact h3⟩

def own_mx : Int64 := 9223372036854775807
def own_until (l d : Int64) : Int64 := if l - d < 0 then 0 else if l - d = 9223372036854775807 then 9223372036854775807 else l - d + 1
def own_spent (d l : Int64) : Int32 := if l < d then 1 else 0
theorem own_e64 (x y : Int64) : (x = y) ↔ x.toInt = y.toInt := Int64.toInt_inj.symm
theorem own_m64 (x : Int64) : 0 ≤ (x &&& 9223372036854775807).toInt := by
  have := c_maskL x 9223372036854775807 63 (by decide) (by decide)
  rw [this]; exact Int.emod_nonneg _ (by decide)
theorem own_km : (9223372036854775807 : Int64).toInt = 9223372036854775807 := by decide
theorem own_k0 : (0 : Int64).toInt = 0 := rfl
theorem own_k1 : (1 : Int64).toInt = 1 := rfl
theorem own_p1 {l : Int64} (hl : 0 ≤ l.toInt) (h : l < 9223372036854775807) : 0 ≤ (l + 1).toInt := by
  have e := c_ladd l 1
  have r := rng64 l
  have r2 := rng64 (l + 1)
  rw [Int64.lt_iff_toInt_lt, own_km] at h
  rw [own_k1] at e
  omega
theorem own_ex1 {l d : Int64} (hl : 0 ≤ l.toInt) (hd : 0 ≤ d.toInt) (h : l < d) : own_until l d = 0 := by
  have e := c_lsub l d
  have r := rng64 l
  have r1 := rng64 d
  have r2 := rng64 (l - d)
  rw [Int64.lt_iff_toInt_lt] at h
  rw [own_until, if_pos (by rw [Int64.lt_iff_toInt_lt, own_k0]; omega)]
theorem own_ex2 {l d : Int64} (hl : 0 ≤ l.toInt) (hd : 0 ≤ d.toInt) (h : l = 9223372036854775807) (h2 : d = 0) : own_until l d = 9223372036854775807 := by
  subst h h2; decide
theorem own_ex3 {l d : Int64} (hl : 0 ≤ l.toInt) (hd : 0 ≤ d.toInt) (h : ¬ l < d) (h2 : ¬ l = 9223372036854775807 ∨ ¬ d = 0) : own_until l d = l - d + 1 := by
  have e := c_lsub l d
  have r := rng64 l
  have r1 := rng64 d
  have r2 := rng64 (l - d)
  rw [Int64.lt_iff_toInt_lt] at h
  rw [own_e64, own_e64, own_km, own_k0] at h2
  rw [own_until, if_neg (by rw [Int64.lt_iff_toInt_lt, own_k0]; omega), if_neg (by rw [own_e64, own_km]; omega)]
theorem own_len {l d : Int64} (hl : 0 ≤ l.toInt) (hd : 0 ≤ d.toInt) : (l.toInt < d.toInt ∧ (own_until l d).toInt = 0) ∨ (d.toInt ≤ l.toInt ∧ l.toInt - d.toInt = 9223372036854775807 ∧ (own_until l d).toInt = 9223372036854775807) ∨ (d.toInt ≤ l.toInt ∧ l.toInt - d.toInt < 9223372036854775807 ∧ (own_until l d).toInt = l.toInt - d.toInt + 1) := by
  have e := c_lsub l d
  have r := rng64 l
  have r1 := rng64 d
  have r2 := rng64 (l - d)
  have e3 := c_ladd (l - d) 1
  have r3 := rng64 (l - d + 1)
  rw [own_k1] at e3
  by_cases a : l - d < 0
  · refine Or.inl ⟨?_, by rw [own_until, if_pos a]; rfl⟩
    rw [Int64.lt_iff_toInt_lt, own_k0] at a; omega
  · by_cases b : l - d = 9223372036854775807
    · refine Or.inr (Or.inl ⟨?_, ?_, by rw [own_until, if_neg a, if_pos b]; exact own_km⟩)
      all_goals rw [Int64.lt_iff_toInt_lt, own_k0] at a
      all_goals rw [own_e64, own_km] at b
      all_goals omega
    · rw [own_until, if_neg a, if_neg b]
      rw [Int64.lt_iff_toInt_lt, own_k0] at a
      rw [own_e64, own_km] at b
      exact Or.inr (Or.inr ⟨by omega, by omega, by omega⟩)
theorem own_sp1 {l d : Int64} (hl : 0 ≤ l.toInt) (hd : 0 ≤ d.toInt) (h : own_until l d = 0) : (1 : Int32) = own_spent d l := by
  have q := own_len hl hd
  rw [own_e64, own_k0] at h
  rw [own_spent, if_pos (by rw [Int64.lt_iff_toInt_lt]; omega)]
theorem own_sp0 {l d : Int64} (hl : 0 ≤ l.toInt) (hd : 0 ≤ d.toInt) (h : ¬ own_until l d = 0) : (0 : Int32) = own_spent d l := by
  have q := own_len hl hd
  rw [own_e64, own_k0] at h
  rw [own_spent, if_neg (by rw [Int64.lt_iff_toInt_lt]; omega)]
theorem own_pos {l d : Int64} (hl : 0 ≤ l.toInt) (hd : 0 ≤ d.toInt) (h : own_until l d < 9223372036854775807) (h0 : 0 < own_until l d) : (d + (own_until l d - 1)).toInt = l.toInt := by
  have q := own_len hl hd
  rw [Int64.lt_iff_toInt_lt, own_km] at h
  rw [Int64.lt_iff_toInt_lt, own_k0] at h0
  have e1 := c_lsub (own_until l d) 1
  have e2 := c_ladd d (own_until l d - 1)
  have r1 := rng64 (own_until l d - 1)
  have r2 := rng64 (d + (own_until l d - 1))
  have r3 := rng64 l
  rw [own_k1] at e1
  omega
theorem own_c1 {l d : Int64} (hl : 0 ≤ l.toInt) (hd : 0 ≤ d.toInt) (h : own_until l d < 9223372036854775807) (h0 : 0 < own_until l d) : own_spent (d + (own_until l d - 1)) l = 0 := by
  have q := own_pos hl hd h h0
  rw [own_spent, if_neg (by rw [Int64.lt_iff_toInt_lt]; omega)]
theorem own_c2 {l d : Int64} (hl : 0 ≤ l.toInt) (hd : 0 ≤ d.toInt) (h : own_until l d < 9223372036854775807) (h0 : 0 < own_until l d) (hm : l < 9223372036854775807) : own_spent (d + (own_until l d - 1) + 1) l = 1 := by
  have q := own_pos hl hd h h0
  have e2 := c_ladd (d + (own_until l d - 1)) 1
  have r2 := rng64 (d + (own_until l d - 1) + 1)
  rw [Int64.lt_iff_toInt_lt, own_km] at hm
  rw [own_k1] at e2
  rw [own_spent, if_pos (by rw [Int64.lt_iff_toInt_lt]; omega)]

theorem own_z0 (x : Int64) : (0 : Int64) + x = x := Int64.zero_add x
theorem ef_rm1 (m : MethodId) (a : Addr) (q : Int64) : entryFrame m #[(.ref a), (.long q)] 3 = mkF m 0 #[.val (.ref a), .val (.long q), .second] [] := by first | (simp [entryFrame, mkF, argsToLocals, Value.category]; done) | rfl
def Qrm1 (Z : State) (a : Addr) (q : Int64) (l0 : Int64) (d0 : Int64) (h0 : Heap) (n0 : Nat) (v : Option Value) (h : Heap) (L : List Loc) : Prop := v = none ∧ Fr n0 L ∧ Keep h0 h [a] ∧ Exa Z h a "com/example/percurso/percurso/completeness/Work" ∧ Fld Z h a "com/example/percurso/percurso/completeness/Work" "limit" "J" (.long q) ∧ Fld Z h a "com/example/percurso/percurso/completeness/Work" "done" "J" (.long d0)
def Prm1 (s : State) (Z : State) (a : Addr) (q : Int64) (l0 : Int64) (d0 : Int64) (h0 : Heap) (n0 : Nat) : State → Outcome → Prop := fun U' o => ∃ v L, o = .returned v ∧ Qrm1 Z a q l0 d0 h0 n0 v U'.heap L ∧ FrameEnd s o U' L ({ frames := 1, cells := 0, slots := 0, locals := 12 } : Room).cells ({ frames := 1, cells := 0, slots := 0, locals := 12 } : Room).slots
set_option maxRecDepth 65536 in
set_option maxHeartbeats 40000000 in
theorem rm1 (l : Launch) (Z : State) (a0 : Array Value) (hw : ∀ d ∈ tables_1, d.before a0 Z = true) (ws : List Jvm.Cond) (a : Addr) (q : Int64) (l0 : Int64) (d0 : Int64) (h0 : Heap) (n0 : Nat) (Z0 : n0 ≤ h0.size) (Fl : Fld Z h0 a "com/example/percurso/percurso/completeness/Work" "limit" "J" (.long l0)) (Fd : Fld Z h0 a "com/example/percurso/percurso/completeness/Work" "done" "J" (.long d0)) (Ea : Exa Z h0 a "com/example/percurso/percurso/completeness/Work") (ga : n0 ≤ a) :
    MetFree l (⟨"com/example/percurso/percurso/completeness/Work", "<init>", "(J)V"⟩ : MethodName) (head1 (Jvm.Cond.code (⟨"com/example/percurso/percurso/completeness/Work", "<init>", "(J)V"⟩ : MethodName) prog_81_method_1_code 3 none :: ws) ({ frames := 1, cells := 0, slots := 0, locals := 12 } : Room)) (fun aa U => aa = #[(.ref a), (.long q)] ∧ Z.Warmed39 U.vm ∧ U.heap = h0) (fun _ _ _ _ _ => True) (fun _ U o U' => ∃ v L, o = .returned v ∧ Qrm1 Z a q l0 d0 h0 n0 v U'.heap L ∧ FrameEnd U o U' L ({ frames := 1, cells := 0, slots := 0, locals := 12 } : Room).cells ({ frames := 1, cells := 0, slots := 0, locals := 12 } : Room).slots) := by
  refine MetFree.of_bodySF (plainFor_of_name pn_0) hisR ?_
  intro p e s m args below meth c s₁ Bd hml0 hP hK
  obtain ⟨rfl, hZ, hh⟩ := hP
  have hx := Bd.exec
  have hlk : meth.locks = false := by first | exact BodyLoose.notSynchronized Bd | exact Body.notSynchronized Bd
  have hby := Bd.bytes
  have hml : c.maxLocals = 3 := hml0
  have hown : s.vm.findClass "com/example/percurso/percurso/completeness/Work" = some m.cls := findClass_of_methodNamed Bd.named
  have hnm := (name_of_methodNamed Bd.named Bd.method).1
  have X0 : Stand p l e ({ frames := 1, cells := 0, slots := 0, locals := 12 } : Room) s m #[(.ref a), (.long q)] below meth c s₁ [] 0 0 := Stand.of_body Bd
  have e0 : s₁.heap = h0 := by rw [← hh, Bd.state]; rfl
  have N0 := Fr.nil n0
  show Done p e below (Prm1 s Z a q l0 d0 h0 n0) (s₁.setTop (entryFrame m #[(.ref a), (.long q)] 3))
  refine Done.st (B := s₁.setTop (mkF m 0 #[.val (.ref a), .val (.long q), .second] [])) (fun _ k => castTop (ef_rm1 m a q) k) ?_
  refine Done.st (B := s₁.setTop (mkF m 1 #[.val (.ref a), .val (.long q), .second] [(.ref a)])) (fun _ k => XS.aloadN X0.here hx rfl (hb hby d1_0) rfl rfl k) ?_
  obtain ⟨T1, X1, e1, st1⟩ := initO X0 hx hZ hown (hw _ (List.mem_of_getElem? (i := 7) rfl)) (hw _ (List.mem_of_getElem? (i := 8) rfl)) (hw _ (List.mem_of_getElem? (i := 9) rfl)) e0 (g := (mkF m 1 #[.val (.ref a), .val (.long q), .second] [(.ref a)])) rfl (by rw [hml]; rfl) rfl (hb hby d1_1) (by decide) (W := 0) (by show 2 * 0 + _ ≤ _; exact Nat.le_of_eq rfl) (by decide)
  refine Done.st (B := T1.setTop (mkF m 4 #[.val (.ref a), .val (.long q), .second] [])) (fun _ k => st1 _ k) ?_
  refine Done.st (B := T1.setTop (mkF m 5 #[.val (.ref a), .val (.long q), .second] [(.ref a)])) (fun _ k => XS.aloadN X1.here hx rfl (hb hby d1_4) rfl rfl k) ?_
  refine Done.st (B := T1.setTop (mkF m 6 #[.val (.ref a), .val (.long q), .second] [(.long q), (.ref a)])) (fun _ k => XS.lloadN X1.here hx rfl (hb hby d1_5) rfl k) ?_
  obtain ⟨T2, h2, X2, e2, W2, st2⟩ := putF X1 hx hZ hown (host := "") (Or.inl (hw _ (List.mem_of_getElem? (i := 10) rfl))) Via.refl e1 Fl Ea (Or.inl (hw _ (List.mem_of_getElem? (i := 11) rfl))) (hw _ (List.mem_of_getElem? (i := 2) rfl)) (ty := .long) (by decide) rfl rfl (g := (mkF m 6 #[.val (.ref a), .val (.long q), .second] [(.long q), (.ref a)])) rfl rfl (hb hby d1_6)
  have F2 := Fld.same W2 Fl
  have N2 := Fr.snoc X2 N0 ga
  have Z2 : n0 ≤ h2.size := Nat.le_trans Z0 (Keep.of_wr W2).1
  have KK2 : Keep h0 h2 [a] := ((Keep.refl h0 [a])).wr W2 (Or.inl (List.mem_of_getElem? (i := 0) rfl))
  refine Done.st (B := T2.setTop (mkF m 9 #[.val (.ref a), .val (.long q), .second] [])) (fun _ k => st2 _ k) ?_
  obtain ⟨fs, hr, hrun, hended, hW, hsame⟩ := X2.leave (v := none) (hlocks := hlk) (fun _ => rfl)
  have c4 := (Exa.wr W2 Ea)
  have c5 := (Fld.other W2 Fd (Or.inr (slot_ne (Or.inl (hw _ (List.mem_of_getElem? (i := 18) rfl))) (Or.inl (hw _ (List.mem_of_getElem? (i := 11) rfl))) (by decide) (t := .long) (t' := .long) (by decide) (by decide))))
  refine Done.fin (X2.returnOut hx Bd.returns (hb hby d1_9) hr) hrun hended ⟨_, _, rfl, ?_, ⟨_, rfl⟩, hW, hsame.mono (by decide) (by decide)⟩
  show Qrm1 Z a q l0 d0 h0 n0 _ T2.heap _
  rw [e2]
  exact ⟨rfl, N2, KK2, c4, F2, c5⟩
theorem ef_rm3 (m : MethodId) (a : Addr) (q : Int64) : entryFrame m #[(.ref a), (.long q)] 3 = mkF m 0 #[.val (.ref a), .val (.long q), .second] [] := by first | (simp [entryFrame, mkF, argsToLocals, Value.category]; done) | rfl
def Qrm3 (Z : State) (a : Addr) (q : Int64) (l0 : Int64) (d0 : Int64) (h0 : Heap) (n0 : Nat) (v : Option Value) (h : Heap) (L : List Loc) : Prop := v = none ∧ Fr n0 L ∧ Keep h0 h [a] ∧ Exa Z h a "com/example/percurso/percurso/completeness/Work" ∧ Fld Z h a "com/example/percurso/percurso/completeness/Work" "limit" "J" (.long l0) ∧ Fld Z h a "com/example/percurso/percurso/completeness/Work" "done" "J" (.long (d0 + q))
def Prm3 (s : State) (Z : State) (a : Addr) (q : Int64) (l0 : Int64) (d0 : Int64) (h0 : Heap) (n0 : Nat) : State → Outcome → Prop := fun U' o => ∃ v L, o = .returned v ∧ Qrm3 Z a q l0 d0 h0 n0 v U'.heap L ∧ FrameEnd s o U' L ({ frames := 0, cells := 0, slots := 0, locals := 0 } : Room).cells ({ frames := 0, cells := 0, slots := 0, locals := 0 } : Room).slots
set_option maxRecDepth 65536 in
set_option maxHeartbeats 40000000 in
theorem rm3 (l : Launch) (Z : State) (a0 : Array Value) (hw : ∀ d ∈ tables_1, d.before a0 Z = true) (ws : List Jvm.Cond) (a : Addr) (q : Int64) (l0 : Int64) (d0 : Int64) (h0 : Heap) (n0 : Nat) (Z0 : n0 ≤ h0.size) (Fl : Fld Z h0 a "com/example/percurso/percurso/completeness/Work" "limit" "J" (.long l0)) (Fd : Fld Z h0 a "com/example/percurso/percurso/completeness/Work" "done" "J" (.long d0)) (Ea : Exa Z h0 a "com/example/percurso/percurso/completeness/Work") (ga : n0 ≤ a) :
    MetFree l (⟨"com/example/percurso/percurso/completeness/Work", "add", "(J)V"⟩ : MethodName) (head1 (Jvm.Cond.code (⟨"com/example/percurso/percurso/completeness/Work", "add", "(J)V"⟩ : MethodName) prog_81_method_2_code 3 none :: ws) ({ frames := 0, cells := 0, slots := 0, locals := 0 } : Room)) (fun aa U => aa = #[(.ref a), (.long q)] ∧ Z.Warmed39 U.vm ∧ U.heap = h0) (fun _ _ _ _ _ => True) (fun _ U o U' => ∃ v L, o = .returned v ∧ Qrm3 Z a q l0 d0 h0 n0 v U'.heap L ∧ FrameEnd U o U' L ({ frames := 0, cells := 0, slots := 0, locals := 0 } : Room).cells ({ frames := 0, cells := 0, slots := 0, locals := 0 } : Room).slots) := by
  refine MetFree.of_bodySF (plainFor_of_name pn_0) hisR ?_
  intro p e s m args below meth c s₁ Bd hml0 hP hK
  obtain ⟨rfl, hZ, hh⟩ := hP
  have hx := Bd.exec
  have hlk : meth.locks = false := by first | exact BodyLoose.notSynchronized Bd | exact Body.notSynchronized Bd
  have hby := Bd.bytes
  have hml : c.maxLocals = 3 := hml0
  have hown : s.vm.findClass "com/example/percurso/percurso/completeness/Work" = some m.cls := findClass_of_methodNamed Bd.named
  have hnm := (name_of_methodNamed Bd.named Bd.method).1
  have X0 : Stand p l e ({ frames := 0, cells := 0, slots := 0, locals := 0 } : Room) s m #[(.ref a), (.long q)] below meth c s₁ [] 0 0 := Stand.of_body Bd
  have e0 : s₁.heap = h0 := by rw [← hh, Bd.state]; rfl
  have N0 := Fr.nil n0
  show Done p e below (Prm3 s Z a q l0 d0 h0 n0) (s₁.setTop (entryFrame m #[(.ref a), (.long q)] 3))
  refine Done.st (B := s₁.setTop (mkF m 0 #[.val (.ref a), .val (.long q), .second] [])) (fun _ k => castTop (ef_rm3 m a q) k) ?_
  refine Done.st (B := s₁.setTop (mkF m 1 #[.val (.ref a), .val (.long q), .second] [(.ref a)])) (fun _ k => XS.aloadN X0.here hx rfl (hb hby d3_0) rfl rfl k) ?_
  refine Done.st (B := s₁.setTop (mkF m 2 #[.val (.ref a), .val (.long q), .second] [(.ref a), (.ref a)])) (fun _ k => XS.dup X0.here hx rfl (hb hby d3_1) rfl rfl k) ?_
  obtain ⟨T1, X1, e1, st1⟩ := getF X0 hx hZ hown (host := "") (Or.inl (hw _ (List.mem_of_getElem? (i := 17) rfl))) Via.refl e0 Fd (g := (mkF m 2 #[.val (.ref a), .val (.long q), .second] [(.ref a), (.ref a)])) rfl rfl (hb hby d3_2)
  refine Done.st (B := T1.setTop (mkF m 5 #[.val (.ref a), .val (.long q), .second] [(.long d0), (.ref a)])) (fun _ k => st1 _ k) ?_
  refine Done.st (B := T1.setTop (mkF m 6 #[.val (.ref a), .val (.long q), .second] [(.long q), (.long d0), (.ref a)])) (fun _ k => XS.lloadN X1.here hx rfl (hb hby d3_5) rfl k) ?_
  refine Done.st (B := T1.setTop (mkF m 7 #[.val (.ref a), .val (.long q), .second] [(.long (d0 + q)), (.ref a)])) (fun _ k => XS.ladd X1.here hx rfl (hb hby d3_6) rfl k) ?_
  obtain ⟨T2, h2, X2, e2, W2, st2⟩ := putF X1 hx hZ hown (host := "") (Or.inl (hw _ (List.mem_of_getElem? (i := 17) rfl))) Via.refl e1 Fd Ea (Or.inl (hw _ (List.mem_of_getElem? (i := 18) rfl))) (hw _ (List.mem_of_getElem? (i := 2) rfl)) (ty := .long) (by decide) rfl rfl (g := (mkF m 7 #[.val (.ref a), .val (.long q), .second] [(.long (d0 + q)), (.ref a)])) rfl rfl (hb hby d3_7)
  have F2 := Fld.same W2 Fd
  have N2 := Fr.snoc X2 N0 ga
  have Z2 : n0 ≤ h2.size := Nat.le_trans Z0 (Keep.of_wr W2).1
  have KK2 : Keep h0 h2 [a] := ((Keep.refl h0 [a])).wr W2 (Or.inl (List.mem_of_getElem? (i := 0) rfl))
  refine Done.st (B := T2.setTop (mkF m 10 #[.val (.ref a), .val (.long q), .second] [])) (fun _ k => st2 _ k) ?_
  obtain ⟨fs, hr, hrun, hended, hW, hsame⟩ := X2.leave (v := none) (hlocks := hlk) (fun _ => rfl)
  have c4 := (Exa.wr W2 Ea)
  have c5 := (Fld.other W2 Fl (Or.inr (slot_ne (Or.inl (hw _ (List.mem_of_getElem? (i := 11) rfl))) (Or.inl (hw _ (List.mem_of_getElem? (i := 18) rfl))) (by decide) (t := .long) (t' := .long) (by decide) (by decide))))
  refine Done.fin (X2.returnOut hx Bd.returns (hb hby d3_10) hr) hrun hended ⟨_, _, rfl, ?_, ⟨_, rfl⟩, hW, hsame.mono (by decide) (by decide)⟩
  show Qrm3 Z a q l0 d0 h0 n0 _ T2.heap _
  rw [e2]
  exact ⟨rfl, N2, KK2, c4, c5, F2⟩
theorem ef_rm4 (m : MethodId) (a : Addr) : entryFrame m #[(.ref a)] 5 = mkF m 0 #[.val (.ref a), .unset, .unset, .unset, .unset] [] := by first | (simp [entryFrame, mkF, argsToLocals, Value.category]; done) | rfl
def Qrm4 (Z : State) (a : Addr) (l0 : Int64) (d0 : Int64) (h0 : Heap) (n0 : Nat) (v : Option Value) (h : Heap) (L : List Loc) : Prop := v = some (.long (own_until l0 d0)) ∧ Fr n0 L ∧ h = h0
def Prm4 (s : State) (Z : State) (a : Addr) (l0 : Int64) (d0 : Int64) (h0 : Heap) (n0 : Nat) : State → Outcome → Prop := fun U' o => ∃ v L, o = .returned v ∧ Qrm4 Z a l0 d0 h0 n0 v U'.heap L ∧ FrameEnd s o U' L ({ frames := 0, cells := 0, slots := 0, locals := 0 } : Room).cells ({ frames := 0, cells := 0, slots := 0, locals := 0 } : Room).slots
set_option maxRecDepth 65536 in
set_option maxHeartbeats 40000000 in
theorem rm4 (l : Launch) (Z : State) (a0 : Array Value) (hw : ∀ d ∈ tables_1, d.before a0 Z = true) (ws : List Jvm.Cond) (a : Addr) (l0 : Int64) (d0 : Int64) (h0 : Heap) (n0 : Nat) (Z0 : n0 ≤ h0.size) (Fl : Fld Z h0 a "com/example/percurso/percurso/completeness/Work" "limit" "J" (.long l0)) (Fd : Fld Z h0 a "com/example/percurso/percurso/completeness/Work" "done" "J" (.long d0)) (Ea : Exa Z h0 a "com/example/percurso/percurso/completeness/Work") (ga : n0 ≤ a) :
    MetFree l (⟨"com/example/percurso/percurso/completeness/Work", "untilSpent", "()J"⟩ : MethodName) (head1 (Jvm.Cond.code (⟨"com/example/percurso/percurso/completeness/Work", "untilSpent", "()J"⟩ : MethodName) prog_81_method_7_code 5 (some .long) :: ws) ({ frames := 0, cells := 0, slots := 0, locals := 0 } : Room)) (fun aa U => aa = #[(.ref a)] ∧ Z.Warmed39 U.vm ∧ U.heap = h0) (fun _ _ _ _ _ => True) (fun _ U o U' => ∃ v L, o = .returned v ∧ Qrm4 Z a l0 d0 h0 n0 v U'.heap L ∧ FrameEnd U o U' L ({ frames := 0, cells := 0, slots := 0, locals := 0 } : Room).cells ({ frames := 0, cells := 0, slots := 0, locals := 0 } : Room).slots) := by
  refine MetFree.of_bodySF (plainFor_of_name pn_0) hisR ?_
  intro p e s m args below meth c s₁ Bd hml0 hP hK
  obtain ⟨rfl, hZ, hh⟩ := hP
  have hx := Bd.exec
  have hlk : meth.locks = false := by first | exact BodyLoose.notSynchronized Bd | exact Body.notSynchronized Bd
  have hby := Bd.bytes
  have hml : c.maxLocals = 5 := hml0
  have hown : s.vm.findClass "com/example/percurso/percurso/completeness/Work" = some m.cls := findClass_of_methodNamed Bd.named
  have hnm := (name_of_methodNamed Bd.named Bd.method).1
  have X0 : Stand p l e ({ frames := 0, cells := 0, slots := 0, locals := 0 } : Room) s m #[(.ref a)] below meth c s₁ [] 0 0 := Stand.of_body Bd
  have e0 : s₁.heap = h0 := by rw [← hh, Bd.state]; rfl
  have N0 := Fr.nil n0
  show Done p e below (Prm4 s Z a l0 d0 h0 n0) (s₁.setTop (entryFrame m #[(.ref a)] 5))
  refine Done.st (B := s₁.setTop (mkF m 0 #[.val (.ref a), .unset, .unset, .unset, .unset] [])) (fun _ k => castTop (ef_rm4 m a) k) ?_
  refine Done.st (B := s₁.setTop (mkF m 1 #[.val (.ref a), .unset, .unset, .unset, .unset] [(.ref a)])) (fun _ k => XS.aloadN X0.here hx rfl (hb hby d4_0) rfl rfl k) ?_
  obtain ⟨T1, X1, e1, st1⟩ := getF X0 hx hZ hown (host := "") (Or.inl (hw _ (List.mem_of_getElem? (i := 10) rfl))) Via.refl e0 Fl (g := (mkF m 1 #[.val (.ref a), .unset, .unset, .unset, .unset] [(.ref a)])) rfl rfl (hb hby d4_1)
  refine Done.st (B := T1.setTop (mkF m 4 #[.val (.ref a), .unset, .unset, .unset, .unset] [(.long l0)])) (fun _ k => st1 _ k) ?_
  refine Done.st (B := T1.setTop (mkF m 5 #[.val (.ref a), .unset, .unset, .unset, .unset] [(.ref a), (.long l0)])) (fun _ k => XS.aloadN X1.here hx rfl (hb hby d4_4) rfl rfl k) ?_
  obtain ⟨T2, X2, e2, st2⟩ := getF X1 hx hZ hown (host := "") (Or.inl (hw _ (List.mem_of_getElem? (i := 17) rfl))) Via.refl e1 Fd (g := (mkF m 5 #[.val (.ref a), .unset, .unset, .unset, .unset] [(.ref a), (.long l0)])) rfl rfl (hb hby d4_5)
  refine Done.st (B := T2.setTop (mkF m 8 #[.val (.ref a), .unset, .unset, .unset, .unset] [(.long d0), (.long l0)])) (fun _ k => st2 _ k) ?_
  refine Done.st (B := T2.setTop (mkF m 9 #[.val (.ref a), .unset, .unset, .unset, .unset] [(.long (l0 - d0))])) (fun _ k => XS.lsub X2.here hx rfl (hb hby d4_8) rfl k) ?_
  refine Done.st (B := T2.setTop (mkF m 10 #[.val (.ref a), .val (.long (l0 - d0)), .second, .unset, .unset] [])) (fun _ k => XS.lstoreN X2.here hx rfl (hb hby d4_9) rfl (l' := #[.val (.ref a), .val (.long (l0 - d0)), .second, .unset, .unset]) rfl k) ?_
  refine Done.st (B := T2.setTop (mkF m 11 #[.val (.ref a), .val (.long (l0 - d0)), .second, .unset, .unset] [(.long (l0 - d0))])) (fun _ k => XS.lloadN X2.here hx rfl (hb hby d4_10) rfl k) ?_
  refine Done.st (B := T2.setTop (mkF m 12 #[.val (.ref a), .val (.long (l0 - d0)), .second, .unset, .unset] [(.long (0 : Int64)), (.long (l0 - d0))])) (fun _ k => XS.lconst X2.here hx rfl (hb hby d4_11) k) ?_
  refine Done.st (B := T2.setTop (mkF m 13 #[.val (.ref a), .val (.long (l0 - d0)), .second, .unset, .unset] [(.int (lcmpW (l0 - d0) (0 : Int64)))])) (fun _ k => XS.lcmp X2.here hx rfl (hb hby d4_12) rfl k) ?_
  by_cases hc13 : (l0 - d0) < (0 : Int64)
  · refine Done.st (B := T2.setTop (mkF m 16 #[.val (.ref a), .val (.long (l0 - d0)), .second, .unset, .unset] [])) (fun _ k => XS.ifNo X2.here hx rfl (hb hby d4_13) rfl ((if0 _ _).trans (tlt ((lw_lt _ _).mpr hc13)).2.1) k) ?_
    refine Done.st (B := T2.setTop (mkF m 17 #[.val (.ref a), .val (.long (l0 - d0)), .second, .unset, .unset] [(.long (0 : Int64))])) (fun _ k => XS.lconst X2.here hx rfl (hb hby d4_16) k) ?_
    refine Done.st (B := T2.setTop (mkF m 18 #[.val (.ref a), .val (.long (l0 - d0)), .second, .val (.long (0 : Int64)), .second] [])) (fun _ k => XS.lstoreN X2.here hx rfl (hb hby d4_17) rfl (l' := #[.val (.ref a), .val (.long (l0 - d0)), .second, .val (.long (0 : Int64)), .second]) rfl k) ?_
    refine Done.st (B := T2.setTop (mkF m 40 #[.val (.ref a), .val (.long (l0 - d0)), .second, .val (.long (0 : Int64)), .second] [])) (fun _ k => XS.goto X2.here hx rfl (pc0 := 18) (pc' := 40) rfl (hb hby d4_18) (by decide) (by decide) k) ?_
    refine Done.st (B := T2.setTop (mkF m 41 #[.val (.ref a), .val (.long (l0 - d0)), .second, .val (.long (0 : Int64)), .second] [(.long (0 : Int64))])) (fun _ k => XS.lloadN X2.here hx rfl (hb hby d4_40) rfl k) ?_
    obtain ⟨fs, hr, hrun, hended, hW, hsame⟩ := X2.leave (v := some (.long (0 : Int64))) (hlocks := hlk) (fun h => by rw [Bd.returns] at h; cases h)
    refine Done.fin (retJ X2 hx Bd.returns (hb hby d4_41) hr) hrun hended ⟨_, _, rfl, ?_, ⟨_, rfl⟩, hW, hsame.mono (by decide) (by decide)⟩
    show Qrm4 Z a l0 d0 h0 n0 _ T2.heap _
    rw [e2]
    exact ⟨by simp [own_until, hc13], N0, rfl⟩
  · refine Done.st (B := T2.setTop (mkF m 21 #[.val (.ref a), .val (.long (l0 - d0)), .second, .unset, .unset] [])) (fun _ k => XS.ifYes X2.here hx rfl (pc0 := 13) (pc' := 21) rfl (hb hby d4_13) rfl ((if0 _ _).trans (flt (fun z => hc13 ((lw_lt _ _).mp z))).2.1) (by decide) (by decide) k) ?_
    refine Done.st (B := T2.setTop (mkF m 22 #[.val (.ref a), .val (.long (l0 - d0)), .second, .unset, .unset] [(.long (l0 - d0))])) (fun _ k => XS.lloadN X2.here hx rfl (hb hby d4_21) rfl k) ?_
    refine Done.st (B := T2.setTop (mkF m 25 #[.val (.ref a), .val (.long (l0 - d0)), .second, .unset, .unset] [(.long (9223372036854775807 : Int64)), (.long (l0 - d0))])) (fun _ k => X2.ldc2Long hx hown (mvT hZ (hw _ (List.mem_of_getElem? (i := 24) rfl))) (g := (mkF m 22 #[.val (.ref a), .val (.long (l0 - d0)), .second, .unset, .unset] [(.long (l0 - d0))])) rfl (hb hby d4_22) _ k) ?_
    refine Done.st (B := T2.setTop (mkF m 26 #[.val (.ref a), .val (.long (l0 - d0)), .second, .unset, .unset] [(.int (lcmpW (l0 - d0) (9223372036854775807 : Int64)))])) (fun _ k => XS.lcmp X2.here hx rfl (hb hby d4_25) rfl k) ?_
    by_cases hc26 : (l0 - d0) = (9223372036854775807 : Int64)
    · refine Done.st (B := T2.setTop (mkF m 29 #[.val (.ref a), .val (.long (l0 - d0)), .second, .unset, .unset] [])) (fun _ k => XS.ifNo X2.here hx rfl (hb hby d4_26) rfl ((if0 _ _).trans (teq ((lw_eq _ _).mpr hc26)).2) k) ?_
      refine Done.st (B := T2.setTop (mkF m 32 #[.val (.ref a), .val (.long (l0 - d0)), .second, .unset, .unset] [(.long (9223372036854775807 : Int64))])) (fun _ k => X2.ldc2Long hx hown (mvT hZ (hw _ (List.mem_of_getElem? (i := 24) rfl))) (g := (mkF m 29 #[.val (.ref a), .val (.long (l0 - d0)), .second, .unset, .unset] [])) rfl (hb hby d4_29) _ k) ?_
      refine Done.st (B := T2.setTop (mkF m 33 #[.val (.ref a), .val (.long (l0 - d0)), .second, .val (.long (9223372036854775807 : Int64)), .second] [])) (fun _ k => XS.lstoreN X2.here hx rfl (hb hby d4_32) rfl (l' := #[.val (.ref a), .val (.long (l0 - d0)), .second, .val (.long (9223372036854775807 : Int64)), .second]) rfl k) ?_
      refine Done.st (B := T2.setTop (mkF m 40 #[.val (.ref a), .val (.long (l0 - d0)), .second, .val (.long (9223372036854775807 : Int64)), .second] [])) (fun _ k => XS.goto X2.here hx rfl (pc0 := 33) (pc' := 40) rfl (hb hby d4_33) (by decide) (by decide) k) ?_
      refine Done.st (B := T2.setTop (mkF m 41 #[.val (.ref a), .val (.long (l0 - d0)), .second, .val (.long (9223372036854775807 : Int64)), .second] [(.long (9223372036854775807 : Int64))])) (fun _ k => XS.lloadN X2.here hx rfl (hb hby d4_40) rfl k) ?_
      obtain ⟨fs, hr, hrun, hended, hW, hsame⟩ := X2.leave (v := some (.long (9223372036854775807 : Int64))) (hlocks := hlk) (fun h => by rw [Bd.returns] at h; cases h)
      refine Done.fin (retJ X2 hx Bd.returns (hb hby d4_41) hr) hrun hended ⟨_, _, rfl, ?_, ⟨_, rfl⟩, hW, hsame.mono (by decide) (by decide)⟩
      show Qrm4 Z a l0 d0 h0 n0 _ T2.heap _
      rw [e2]
      exact ⟨by simp [own_until, hc13, hc26], N0, rfl⟩
    · refine Done.st (B := T2.setTop (mkF m 36 #[.val (.ref a), .val (.long (l0 - d0)), .second, .unset, .unset] [])) (fun _ k => XS.ifYes X2.here hx rfl (pc0 := 26) (pc' := 36) rfl (hb hby d4_26) rfl ((if0 _ _).trans (feq (fun z => hc26 ((lw_eq _ _).mp z))).2) (by decide) (by decide) k) ?_
      refine Done.st (B := T2.setTop (mkF m 37 #[.val (.ref a), .val (.long (l0 - d0)), .second, .unset, .unset] [(.long (l0 - d0))])) (fun _ k => XS.lloadN X2.here hx rfl (hb hby d4_36) rfl k) ?_
      refine Done.st (B := T2.setTop (mkF m 38 #[.val (.ref a), .val (.long (l0 - d0)), .second, .unset, .unset] [(.long (1 : Int64)), (.long (l0 - d0))])) (fun _ k => XS.lconst X2.here hx rfl (hb hby d4_37) k) ?_
      refine Done.st (B := T2.setTop (mkF m 39 #[.val (.ref a), .val (.long (l0 - d0)), .second, .unset, .unset] [(.long ((l0 - d0) + (1 : Int64)))])) (fun _ k => XS.ladd X2.here hx rfl (hb hby d4_38) rfl k) ?_
      refine Done.st (B := T2.setTop (mkF m 40 #[.val (.ref a), .val (.long (l0 - d0)), .second, .val (.long ((l0 - d0) + (1 : Int64))), .second] [])) (fun _ k => XS.lstoreN X2.here hx rfl (hb hby d4_39) rfl (l' := #[.val (.ref a), .val (.long (l0 - d0)), .second, .val (.long ((l0 - d0) + (1 : Int64))), .second]) rfl k) ?_
      refine Done.st (B := T2.setTop (mkF m 41 #[.val (.ref a), .val (.long (l0 - d0)), .second, .val (.long ((l0 - d0) + (1 : Int64))), .second] [(.long ((l0 - d0) + (1 : Int64)))])) (fun _ k => XS.lloadN X2.here hx rfl (hb hby d4_40) rfl k) ?_
      obtain ⟨fs, hr, hrun, hended, hW, hsame⟩ := X2.leave (v := some (.long ((l0 - d0) + (1 : Int64)))) (hlocks := hlk) (fun h => by rw [Bd.returns] at h; cases h)
      refine Done.fin (retJ X2 hx Bd.returns (hb hby d4_41) hr) hrun hended ⟨_, _, rfl, ?_, ⟨_, rfl⟩, hW, hsame.mono (by decide) (by decide)⟩
      show Qrm4 Z a l0 d0 h0 n0 _ T2.heap _
      rw [e2]
      exact ⟨by simp [own_until, hc13, hc26], N0, rfl⟩
theorem ef_rm5 (m : MethodId) (a : Addr) : entryFrame m #[(.ref a)] 1 = mkF m 0 #[.val (.ref a)] [] := by first | (simp [entryFrame, mkF, argsToLocals, Value.category]; done) | rfl
def Qrm5 (Z : State) (a : Addr) (l0 : Int64) (d0 : Int64) (h0 : Heap) (n0 : Nat) (v : Option Value) (h : Heap) (L : List Loc) : Prop := v = some (.int (own_spent d0 l0)) ∧ Fr n0 L ∧ h = h0
def Prm5 (s : State) (Z : State) (a : Addr) (l0 : Int64) (d0 : Int64) (h0 : Heap) (n0 : Nat) : State → Outcome → Prop := fun U' o => ∃ v L, o = .returned v ∧ Qrm5 Z a l0 d0 h0 n0 v U'.heap L ∧ FrameEnd s o U' L ({ frames := 0, cells := 0, slots := 0, locals := 0 } : Room).cells ({ frames := 0, cells := 0, slots := 0, locals := 0 } : Room).slots
set_option maxRecDepth 65536 in
set_option maxHeartbeats 40000000 in
theorem rm5 (l : Launch) (Z : State) (a0 : Array Value) (hw : ∀ d ∈ tables_1, d.before a0 Z = true) (ws : List Jvm.Cond) (a : Addr) (l0 : Int64) (d0 : Int64) (h0 : Heap) (n0 : Nat) (Z0 : n0 ≤ h0.size) (Fl : Fld Z h0 a "com/example/percurso/percurso/completeness/Work" "limit" "J" (.long l0)) (Fd : Fld Z h0 a "com/example/percurso/percurso/completeness/Work" "done" "J" (.long d0)) (Ea : Exa Z h0 a "com/example/percurso/percurso/completeness/Work") (ga : n0 ≤ a) :
    MetFree l (⟨"com/example/percurso/percurso/completeness/Work", "spent", "()Z"⟩ : MethodName) (head1 (Jvm.Cond.code (⟨"com/example/percurso/percurso/completeness/Work", "spent", "()Z"⟩ : MethodName) prog_81_method_8_code 1 (some .boolean) :: ws) ({ frames := 0, cells := 0, slots := 0, locals := 0 } : Room)) (fun aa U => aa = #[(.ref a)] ∧ Z.Warmed39 U.vm ∧ U.heap = h0) (fun _ _ _ _ _ => True) (fun _ U o U' => ∃ v L, o = .returned v ∧ Qrm5 Z a l0 d0 h0 n0 v U'.heap L ∧ FrameEnd U o U' L ({ frames := 0, cells := 0, slots := 0, locals := 0 } : Room).cells ({ frames := 0, cells := 0, slots := 0, locals := 0 } : Room).slots) := by
  refine MetFree.of_bodySF (plainFor_of_name pn_0) hisR ?_
  intro p e s m args below meth c s₁ Bd hml0 hP hK
  obtain ⟨rfl, hZ, hh⟩ := hP
  have hx := Bd.exec
  have hlk : meth.locks = false := by first | exact BodyLoose.notSynchronized Bd | exact Body.notSynchronized Bd
  have hby := Bd.bytes
  have hml : c.maxLocals = 1 := hml0
  have hown : s.vm.findClass "com/example/percurso/percurso/completeness/Work" = some m.cls := findClass_of_methodNamed Bd.named
  have hnm := (name_of_methodNamed Bd.named Bd.method).1
  have X0 : Stand p l e ({ frames := 0, cells := 0, slots := 0, locals := 0 } : Room) s m #[(.ref a)] below meth c s₁ [] 0 0 := Stand.of_body Bd
  have e0 : s₁.heap = h0 := by rw [← hh, Bd.state]; rfl
  have N0 := Fr.nil n0
  show Done p e below (Prm5 s Z a l0 d0 h0 n0) (s₁.setTop (entryFrame m #[(.ref a)] 1))
  refine Done.st (B := s₁.setTop (mkF m 0 #[.val (.ref a)] [])) (fun _ k => castTop (ef_rm5 m a) k) ?_
  refine Done.st (B := s₁.setTop (mkF m 1 #[.val (.ref a)] [(.ref a)])) (fun _ k => XS.aloadN X0.here hx rfl (hb hby d5_0) rfl rfl k) ?_
  obtain ⟨T1, X1, e1, st1⟩ := getF X0 hx hZ hown (host := "") (Or.inl (hw _ (List.mem_of_getElem? (i := 17) rfl))) Via.refl e0 Fd (g := (mkF m 1 #[.val (.ref a)] [(.ref a)])) rfl rfl (hb hby d5_1)
  refine Done.st (B := T1.setTop (mkF m 4 #[.val (.ref a)] [(.long d0)])) (fun _ k => st1 _ k) ?_
  refine Done.st (B := T1.setTop (mkF m 5 #[.val (.ref a)] [(.ref a), (.long d0)])) (fun _ k => XS.aloadN X1.here hx rfl (hb hby d5_4) rfl rfl k) ?_
  obtain ⟨T2, X2, e2, st2⟩ := getF X1 hx hZ hown (host := "") (Or.inl (hw _ (List.mem_of_getElem? (i := 10) rfl))) Via.refl e1 Fl (g := (mkF m 5 #[.val (.ref a)] [(.ref a), (.long d0)])) rfl rfl (hb hby d5_5)
  refine Done.st (B := T2.setTop (mkF m 8 #[.val (.ref a)] [(.long l0), (.long d0)])) (fun _ k => st2 _ k) ?_
  refine Done.st (B := T2.setTop (mkF m 9 #[.val (.ref a)] [(.int (lcmpW d0 l0))])) (fun _ k => XS.lcmp X2.here hx rfl (hb hby d5_8) rfl k) ?_
  by_cases hc9 : l0 < d0
  · refine Done.st (B := T2.setTop (mkF m 12 #[.val (.ref a)] [])) (fun _ k => XS.ifNo X2.here hx rfl (hb hby d5_9) rfl ((if0 _ _).trans (tlt ((lw_gt _ _).mpr hc9)).2.2.2) k) ?_
    refine Done.st (B := T2.setTop (mkF m 13 #[.val (.ref a)] [(.int (1 : Int32))])) (fun _ k => XS.iconst X2.here hx rfl (hb hby d5_12) k) ?_
    refine Done.st (B := T2.setTop (mkF m 17 #[.val (.ref a)] [(.int (1 : Int32))])) (fun _ k => XS.goto X2.here hx rfl (pc0 := 13) (pc' := 17) rfl (hb hby d5_13) (by decide) (by decide) k) ?_
    obtain ⟨fs, hr, hrun, hended, hW, hsame⟩ := X2.leave (v := some (.int (1 : Int32))) (hlocks := hlk) (fun h => by rw [Bd.returns] at h; cases h)
    refine Done.fin (retN X2 hx (t := .boolean) Bd.returns (by simp) (hb hby d5_17) hr) hrun hended ⟨_, _, rfl, ?_, ⟨_, rfl⟩, hW, hsame.mono (by decide) (by decide)⟩
    show Qrm5 Z a l0 d0 h0 n0 _ T2.heap _
    rw [e2]
    exact ⟨by simp [own_spent, hc9], N0, rfl⟩
  · refine Done.st (B := T2.setTop (mkF m 16 #[.val (.ref a)] [])) (fun _ k => XS.ifYes X2.here hx rfl (pc0 := 9) (pc' := 16) rfl (hb hby d5_9) rfl ((if0 _ _).trans (flt (fun z => hc9 ((lw_gt _ _).mp z))).2.2.2) (by decide) (by decide) k) ?_
    refine Done.st (B := T2.setTop (mkF m 17 #[.val (.ref a)] [(.int (0 : Int32))])) (fun _ k => XS.iconst X2.here hx rfl (hb hby d5_16) k) ?_
    obtain ⟨fs, hr, hrun, hended, hW, hsame⟩ := X2.leave (v := some (.int (0 : Int32))) (hlocks := hlk) (fun h => by rw [Bd.returns] at h; cases h)
    refine Done.fin (retN X2 hx (t := .boolean) Bd.returns (by simp) (hb hby d5_17) hr) hrun hended ⟨_, _, rfl, ?_, ⟨_, rfl⟩, hW, hsame.mono (by decide) (by decide)⟩
    show Qrm5 Z a l0 d0 h0 n0 _ T2.heap _
    rw [e2]
    exact ⟨by simp [own_spent, hc9], N0, rfl⟩
theorem ef_rm6 (m : MethodId) (a : Addr) : entryFrame m #[(.ref a)] 2 = mkF m 0 #[.val (.ref a), .unset] [] := by first | (simp [entryFrame, mkF, argsToLocals, Value.category]; done) | rfl
def Qrm6 (Z : State) (a : Addr) (l0 : Int64) (d0 : Int64) (h0 : Heap) (n0 : Nat) (v : Option Value) (h : Heap) (L : List Loc) : Prop := ∃ b : Addr, v = some (.ref b) ∧ Fr n0 L ∧ h0.size ≤ b ∧ Keep h0 h [] ∧ Exa Z h b "com/example/percurso/percurso/completeness/Work" ∧ Fld Z h b "com/example/percurso/percurso/completeness/Work" "limit" "J" (.long l0) ∧ Fld Z h b "com/example/percurso/percurso/completeness/Work" "done" "J" (.long d0)
def Prm6 (s : State) (Z : State) (a : Addr) (l0 : Int64) (d0 : Int64) (h0 : Heap) (n0 : Nat) : State → Outcome → Prop := fun U' o => ∃ v L, o = .returned v ∧ Qrm6 Z a l0 d0 h0 n0 v U'.heap L ∧ FrameEnd s o U' L ({ frames := 2, cells := 1, slots := 2, locals := 27 } : Room).cells ({ frames := 2, cells := 1, slots := 2, locals := 27 } : Room).slots
set_option maxRecDepth 65536 in
set_option maxHeartbeats 40000000 in
theorem rm6 (l : Launch) (Z : State) (a0 : Array Value) (hw : ∀ d ∈ tables_1, d.before a0 Z = true) (ws : List Jvm.Cond) (a : Addr) (l0 : Int64) (d0 : Int64) (h0 : Heap) (n0 : Nat) (Z0 : n0 ≤ h0.size) (Fl : Fld Z h0 a "com/example/percurso/percurso/completeness/Work" "limit" "J" (.long l0)) (Fd : Fld Z h0 a "com/example/percurso/percurso/completeness/Work" "done" "J" (.long d0)) (Ea : Exa Z h0 a "com/example/percurso/percurso/completeness/Work") (ga : n0 ≤ a) :
    MetFree l (⟨"com/example/percurso/percurso/completeness/Work", "copy", "()Lcom/example/percurso/percurso/completeness/Work;"⟩ : MethodName) (head1 (Jvm.Cond.code (⟨"com/example/percurso/percurso/completeness/Work", "copy", "()Lcom/example/percurso/percurso/completeness/Work;"⟩ : MethodName) prog_81_method_4_code 2 (some (.object "com/example/percurso/percurso/completeness/Work")) :: ws) ({ frames := 2, cells := 1, slots := 2, locals := 27 } : Room)) (fun aa U => aa = #[(.ref a)] ∧ Z.Warmed39 U.vm ∧ U.heap = h0) (fun _ _ _ _ _ => True) (fun _ U o U' => ∃ v L, o = .returned v ∧ Qrm6 Z a l0 d0 h0 n0 v U'.heap L ∧ FrameEnd U o U' L ({ frames := 2, cells := 1, slots := 2, locals := 27 } : Room).cells ({ frames := 2, cells := 1, slots := 2, locals := 27 } : Room).slots) := by
  refine MetFree.of_bodySF (plainFor_of_name pn_0) hisR ?_
  intro p e s m args below meth c s₁ Bd hml0 hP hK
  obtain ⟨rfl, hZ, hh⟩ := hP
  have hx := Bd.exec
  have hlk : meth.locks = false := by first | exact BodyLoose.notSynchronized Bd | exact Body.notSynchronized Bd
  have hby := Bd.bytes
  have hml : c.maxLocals = 2 := hml0
  have hown : s.vm.findClass "com/example/percurso/percurso/completeness/Work" = some m.cls := findClass_of_methodNamed Bd.named
  have hnm := (name_of_methodNamed Bd.named Bd.method).1
  have X0 : Stand p l e ({ frames := 2, cells := 1, slots := 2, locals := 27 } : Room) s m #[(.ref a)] below meth c s₁ [] 0 0 := Stand.of_body Bd
  have e0 : s₁.heap = h0 := by rw [← hh, Bd.state]; rfl
  have N0 := Fr.nil n0
  show Done p e below (Prm6 s Z a l0 d0 h0 n0) (s₁.setTop (entryFrame m #[(.ref a)] 2))
  refine Done.st (B := s₁.setTop (mkF m 0 #[.val (.ref a), .unset] [])) (fun _ k => castTop (ef_rm6 m a) k) ?_
  obtain ⟨T1, h1, X1, e1, E1, A1, D1, -, st1⟩ := newO X0 hx hZ hown (hw _ (List.mem_of_getElem? (i := 35) rfl)) (hw _ (List.mem_of_getElem? (i := 2) rfl)) (hw _ (List.mem_of_getElem? (i := 3) rfl)) e0 (g := (mkF m 0 #[.val (.ref a), .unset] [])) rfl (hb hby d6_0) (by decide) (by decide)
  obtain ⟨b1, g1⟩ : ∃ z, z = h0.size := ⟨_, rfl⟩
  rw [← g1] at A1 D1 st1
  have ne_a_b1 : a ≠ b1 := Nat.ne_of_lt (Nat.lt_of_lt_of_le Fl.lt (Nat.le_of_eq g1.symm))
  have ge_b1 : n0 ≤ b1 := Nat.le_trans Z0 (Nat.le_of_eq g1.symm)
  have sz_b1 : h0.size ≤ b1 := Nat.le_trans ((Keep.refl h0 [])).1 (Nat.le_of_eq g1.symm)
  have Z1 : n0 ≤ h1.size := Nat.le_trans Z0 E1.1
  have F1_limit : Fld Z h1 b1 "com/example/percurso/percurso/completeness/Work" "limit" "J" (.long (0 : Int64)) := D1 (Or.inl (hw _ (List.mem_of_getElem? (i := 11) rfl))) (ty := .long) (by decide)
  have F1_done : Fld Z h1 b1 "com/example/percurso/percurso/completeness/Work" "done" "J" (.long (0 : Int64)) := D1 (Or.inl (hw _ (List.mem_of_getElem? (i := 18) rfl))) (ty := .long) (by decide)
  have KK1 : Keep h0 h1 [] := ((Keep.refl h0 [])).ext E1
  refine Done.st (B := T1.setTop (mkF m 3 #[.val (.ref a), .unset] [(.ref b1)])) (fun _ k => st1 _ k) ?_
  refine Done.st (B := T1.setTop (mkF m 4 #[.val (.ref a), .unset] [(.ref b1), (.ref b1)])) (fun _ k => XS.dup X1.here hx rfl (hb hby d6_3) rfl rfl k) ?_
  refine Done.st (B := T1.setTop (mkF m 5 #[.val (.ref a), .unset] [(.ref a), (.ref b1), (.ref b1)])) (fun _ k => XS.aloadN X1.here hx rfl (hb hby d6_4) rfl rfl k) ?_
  have c3 := (Fld.ext E1 Fl)
  obtain ⟨T2, X2, e2, st2⟩ := getF X1 hx hZ hown (host := "") (Or.inl (hw _ (List.mem_of_getElem? (i := 10) rfl))) Via.refl e1 c3 (g := (mkF m 5 #[.val (.ref a), .unset] [(.ref a), (.ref b1), (.ref b1)])) rfl rfl (hb hby d6_5)
  refine Done.st (B := T2.setTop (mkF m 8 #[.val (.ref a), .unset] [(.long l0), (.ref b1), (.ref b1)])) (fun _ k => st2 _ k) ?_
  obtain ⟨_, _, ⟨T4, L4, k4, n4⟩, -, X4, ⟨Lc4, hQ4, l4, y4, z4⟩, st4⟩ := X2.specialBack hx (y := (⟨"com/example/percurso/percurso/completeness/Work", "<init>", "(J)V"⟩ : MethodName)) rfl hown (mvT hZ (hw _ (List.mem_of_getElem? (i := 36) rfl))) (mvT hZ (hw _ (List.mem_of_getElem? (i := 5) rfl))) (mvT hZ (hw _ (List.mem_of_getElem? (i := 6) rfl))) (by decide) (backOf (W := 1) (rm1 l Z a0 hw [] b1 l0 (0 : Int64) (0 : Int64) h1 n0 Z1 F1_limit F1_done A1 ge_b1) hZ (hw _ (List.mem_of_getElem? (i := 6) rfl)) (hw _ (List.mem_of_getElem? (i := 3) rfl)) (by decide) (by decide)) (g := (mkF m 8 #[.val (.ref a), .unset] [(.long l0), (.ref b1), (.ref b1)])) rfl (by rw [hml]; rfl) (Steps.refl _) (a := b1) (argsL := [(.long l0)]) (rest := [(.ref b1)]) (lenOf pd_0 rfl) rfl (by show 2 * 0 + _ ≤ _; exact Nat.le_of_eq rfl) (hb hby d6_8) (fun _ _ => ⟨rfl, e2, (by decide : 1 + 0 ≤ _), (by decide : 2 + 0 ≤ _)⟩)
  dsimp only [Pt.U, Pt.locs, Pt.cells, Pt.slots] at X4 l4 y4 z4 st4 hQ4
  subst l4 y4 z4
  obtain ⟨rfl, N4q, K4, f4_0, f4_1, f4_2⟩ := hQ4
  have N4 := Fr.app N0 N4q
  have Z4 : n0 ≤ T4.heap.size := Nat.le_trans Z1 K4.1
  have KK4 : Keep h0 T4.heap [] := (KK1).trans K4 (allS (Or.inr sz_b1) all0)
  refine Done.st (B := T4.setTop (mkF m 11 #[.val (.ref a), .unset] [(.ref b1)])) (fun _ k => st4.trans k) ?_
  refine Done.st (B := T4.setTop (mkF m 12 #[.val (.ref a), .val (.ref b1)] [])) (fun _ k => XS.astoreN X4.here hx rfl (hb hby d6_11) rfl rfl (l' := #[.val (.ref a), .val (.ref b1)]) rfl k) ?_
  refine Done.st (B := T4.setTop (mkF m 13 #[.val (.ref a), .val (.ref b1)] [(.ref b1)])) (fun _ k => XS.aloadN X4.here hx rfl (hb hby d6_12) rfl rfl k) ?_
  refine Done.st (B := T4.setTop (mkF m 14 #[.val (.ref a), .val (.ref b1)] [(.ref a), (.ref b1)])) (fun _ k => XS.aloadN X4.here hx rfl (hb hby d6_13) rfl rfl k) ?_
  have c6 := ((Fld.ext E1 Fd).keep K4 (ninS ne_a_b1 nin0))
  obtain ⟨T5, X5, e5, st5⟩ := getF X4 hx hZ hown (host := "") (Or.inl (hw _ (List.mem_of_getElem? (i := 17) rfl))) Via.refl rfl c6 (g := (mkF m 14 #[.val (.ref a), .val (.ref b1)] [(.ref a), (.ref b1)])) rfl rfl (hb hby d6_14)
  refine Done.st (B := T5.setTop (mkF m 17 #[.val (.ref a), .val (.ref b1)] [(.long d0), (.ref b1)])) (fun _ k => st5 _ k) ?_
  obtain ⟨T7, h7, X7, e7, W7, st7⟩ := putF X5 hx hZ hown (host := "") (Or.inl (hw _ (List.mem_of_getElem? (i := 17) rfl))) Via.refl e5 f4_2 f4_0 (Or.inl (hw _ (List.mem_of_getElem? (i := 18) rfl))) (hw _ (List.mem_of_getElem? (i := 2) rfl)) (ty := .long) (by decide) rfl rfl (g := (mkF m 17 #[.val (.ref a), .val (.ref b1)] [(.long d0), (.ref b1)])) rfl rfl (hb hby d6_17)
  have F7 := Fld.same W7 f4_2
  have N7 := Fr.snoc X7 N4 ge_b1
  have Z7 : n0 ≤ h7.size := Nat.le_trans Z4 (Keep.of_wr W7).1
  have KK7 : Keep h0 h7 [] := (KK4).wr W7 (Or.inr sz_b1)
  refine Done.st (B := T7.setTop (mkF m 20 #[.val (.ref a), .val (.ref b1)] [])) (fun _ k => st7 _ k) ?_
  refine Done.st (B := T7.setTop (mkF m 21 #[.val (.ref a), .val (.ref b1)] [(.ref b1)])) (fun _ k => XS.aloadN X7.here hx rfl (hb hby d6_20) rfl rfl k) ?_
  obtain ⟨fs, hr, hrun, hended, hW, hsame⟩ := X7.leave (v := some (.ref b1)) (hlocks := hlk) (fun h => by rw [Bd.returns] at h; cases h)
  have c9 := (Exa.wr W7 f4_0)
  have c10 := (Fld.other W7 f4_1 (Or.inr (slot_ne (Or.inl (hw _ (List.mem_of_getElem? (i := 11) rfl))) (Or.inl (hw _ (List.mem_of_getElem? (i := 18) rfl))) (by decide) (t := .long) (t' := .long) (by decide) (by decide))))
  refine Done.fin (retR X7 hx Bd.returns rfl rfl (hb hby d6_21) hr) hrun hended ⟨_, _, rfl, ?_, ⟨_, rfl⟩, hW, hsame.mono (by decide) (by decide)⟩
  show Qrm6 Z a l0 d0 h0 n0 _ T7.heap _
  rw [e7]
  exact ⟨b1, rfl, N7, sz_b1, KK7, c9, c10, F7⟩
theorem ef_rm0 (m : MethodId) (x0 : Int64) (x1 : Int64) (x2 : Int32) : entryFrame m #[(.long x0), (.long x1), (.int x2)] maxLocals = mkF m 0 #[.val (.long x0), .second, .val (.long x1), .second, .val (.int x2), .unset, .unset, .unset, .unset, .unset, .unset, .unset, .unset, .unset, .unset, .unset, .unset] [] := by first | (simp [entryFrame, mkF, argsToLocals, Value.category, maxLocals]; done) | rfl
def Qrm0 (Z : State) (x0 : Int64) (x1 : Int64) (x2 : Int32) (h0 : Heap) (n0 : Nat) (v : Option Value) (h : Heap) (L : List Loc) : Prop := v = some (.int 1) ∧ Fr n0 L
def Prm0 (s : State) (Z : State) (x0 : Int64) (x1 : Int64) (x2 : Int32) (h0 : Heap) (n0 : Nat) : State → Outcome → Prop := fun U' o => ∃ v L, o = .returned v ∧ Qrm0 Z x0 x1 x2 h0 n0 v U'.heap L ∧ FrameEnd s o U' L room_1.cells room_1.slots
set_option maxRecDepth 65536 in
set_option maxHeartbeats 40000000 in
theorem rm0 (l : Launch) (Z : State) (a0 : Array Value) (hw : ∀ d ∈ tables_1, d.before a0 Z = true) (ws : List Jvm.Cond) (x0 : Int64) (x1 : Int64) (x2 : Int32) (h0 : Heap) (n0 : Nat) (Z0 : n0 ≤ h0.size) :
    MetFree l x (head1 (Jvm.Cond.code x code maxLocals ret :: ws) room_1) (fun aa U => aa = #[(.long x0), (.long x1), (.int x2)] ∧ Z.Warmed39 U.vm ∧ U.heap = h0) (fun _ _ _ _ _ => True) (fun _ U o U' => ∃ v L, o = .returned v ∧ Qrm0 Z x0 x1 x2 h0 n0 v U'.heap L ∧ FrameEnd U o U' L room_1.cells room_1.slots) := by
  refine MetFree.of_bodySF (plainFor_of_name pn_1) hisR ?_
  intro p e s m args below meth c s₁ Bd hml0 hP hK
  obtain ⟨rfl, hZ, hh⟩ := hP
  have hx := Bd.exec
  have hlk : meth.locks = false := by first | exact BodyLoose.notSynchronized Bd | exact Body.notSynchronized Bd
  have hby := Bd.bytes
  have hml : c.maxLocals = 17 := hml0
  have hown : s.vm.findClass "com/example/percurso/percurso/completeness/WorkUntilSpentPinLaw" = some m.cls := findClass_of_methodNamed Bd.named
  have hnm := (name_of_methodNamed Bd.named Bd.method).1
  have X0 : Stand p l e room_1 s m #[(.long x0), (.long x1), (.int x2)] below meth c s₁ [] 0 0 := Stand.of_body Bd
  have e0 : s₁.heap = h0 := by rw [← hh, Bd.state]; rfl
  have N0 := Fr.nil n0
  show Done p e below (Prm0 s Z x0 x1 x2 h0 n0) (s₁.setTop (entryFrame m #[(.long x0), (.long x1), (.int x2)] maxLocals))
  refine Done.st (B := s₁.setTop (mkF m 0 #[.val (.long x0), .second, .val (.long x1), .second, .val (.int x2), .unset, .unset, .unset, .unset, .unset, .unset, .unset, .unset, .unset, .unset, .unset, .unset] [])) (fun _ k => castTop (ef_rm0 m x0 x1 x2) k) ?_
  refine Done.st (B := s₁.setTop (mkF m 1 #[.val (.long x0), .second, .val (.long x1), .second, .val (.int x2), .unset, .unset, .unset, .unset, .unset, .unset, .unset, .unset, .unset, .unset, .unset, .unset] [(.long x0)])) (fun _ k => XS.lloadN X0.here hx rfl (hb hby at_0) rfl k) ?_
  refine Done.st (B := s₁.setTop (mkF m 4 #[.val (.long x0), .second, .val (.long x1), .second, .val (.int x2), .unset, .unset, .unset, .unset, .unset, .unset, .unset, .unset, .unset, .unset, .unset, .unset] [(.long (9223372036854775807 : Int64)), (.long x0)])) (fun _ k => X0.ldc2Long hx hown (mvT hZ (hw _ (List.mem_of_getElem? (i := 0) rfl))) (g := (mkF m 1 #[.val (.long x0), .second, .val (.long x1), .second, .val (.int x2), .unset, .unset, .unset, .unset, .unset, .unset, .unset, .unset, .unset, .unset, .unset, .unset] [(.long x0)])) rfl (hb hby at_1) _ k) ?_
  refine Done.st (B := s₁.setTop (mkF m 5 #[.val (.long x0), .second, .val (.long x1), .second, .val (.int x2), .unset, .unset, .unset, .unset, .unset, .unset, .unset, .unset, .unset, .unset, .unset, .unset] [(.long (x0 &&& (9223372036854775807 : Int64)))])) (fun _ k => XS.land X0.here hx rfl (hb hby at_4) rfl k) ?_
  refine Done.st (B := s₁.setTop (mkF m 7 #[.val (.long x0), .second, .val (.long x1), .second, .val (.int x2), .val (.long (x0 &&& (9223372036854775807 : Int64))), .second, .unset, .unset, .unset, .unset, .unset, .unset, .unset, .unset, .unset, .unset] [])) (fun _ k => XS.lstore X0.here hx rfl (hb hby at_5) rfl (l' := #[.val (.long x0), .second, .val (.long x1), .second, .val (.int x2), .val (.long (x0 &&& (9223372036854775807 : Int64))), .second, .unset, .unset, .unset, .unset, .unset, .unset, .unset, .unset, .unset, .unset]) rfl k) ?_
  have j19 : ∀ (lim : Int64) (hL : 0 ≤ lim.toInt), Done p e below (Prm0 s Z x0 x1 x2 h0 n0) (s₁.setTop (mkF m 19 #[.val (.long x0), .second, .val (.long x1), .second, .val (.int x2), .val (.long lim), .second, .unset, .unset, .unset, .unset, .unset, .unset, .unset, .unset, .unset, .unset] [])) := by
    intro lim hL
    refine Done.st (B := s₁.setTop (mkF m 21 #[.val (.long x0), .second, .val (.long x1), .second, .val (.int x2), .val (.long lim), .second, .unset, .unset, .unset, .unset, .unset, .unset, .unset, .unset, .unset, .unset] [(.int x2)])) (fun _ k => XS.iload X0.here hx rfl (hb hby at_19) rfl k) ?_
    refine Done.st (B := s₁.setTop (mkF m 22 #[.val (.long x0), .second, .val (.long x1), .second, .val (.int x2), .val (.long lim), .second, .unset, .unset, .unset, .unset, .unset, .unset, .unset, .unset, .unset, .unset] [(.int (3 : Int32)), (.int x2)])) (fun _ k => XS.iconst X0.here hx rfl (hb hby at_21) k) ?_
    refine Done.st (B := s₁.setTop (mkF m 23 #[.val (.long x0), .second, .val (.long x1), .second, .val (.int x2), .val (.long lim), .second, .unset, .unset, .unset, .unset, .unset, .unset, .unset, .unset, .unset, .unset] [(.int (x2 >>> ((3 : Int32) &&& 31)))])) (fun _ k => XS.ishr X0.here hx rfl (hb hby at_22) rfl k) ?_
    refine Done.st (B := s₁.setTop (mkF m 24 #[.val (.long x0), .second, .val (.long x1), .second, .val (.int x2), .val (.long lim), .second, .unset, .unset, .unset, .unset, .unset, .unset, .unset, .unset, .unset, .unset] [(.int (3 : Int32)), (.int (x2 >>> ((3 : Int32) &&& 31)))])) (fun _ k => XS.iconst X0.here hx rfl (hb hby at_23) k) ?_
    refine Done.st (B := s₁.setTop (mkF m 25 #[.val (.long x0), .second, .val (.long x1), .second, .val (.int x2), .val (.long lim), .second, .unset, .unset, .unset, .unset, .unset, .unset, .unset, .unset, .unset, .unset] [(.int ((x2 >>> ((3 : Int32) &&& 31)) &&& (3 : Int32)))])) (fun _ k => XS.iand X0.here hx rfl (hb hby at_24) rfl k) ?_
    refine Done.st (B := s₁.setTop (mkF m 27 #[.val (.long x0), .second, .val (.long x1), .second, .val (.int x2), .val (.long lim), .second, .val (.int ((x2 >>> ((3 : Int32) &&& 31)) &&& (3 : Int32))), .unset, .unset, .unset, .unset, .unset, .unset, .unset, .unset, .unset] [])) (fun _ k => XS.istore X0.here hx rfl (hb hby at_25) rfl (l' := #[.val (.long x0), .second, .val (.long x1), .second, .val (.int x2), .val (.long lim), .second, .val (.int ((x2 >>> ((3 : Int32) &&& 31)) &&& (3 : Int32))), .unset, .unset, .unset, .unset, .unset, .unset, .unset, .unset, .unset]) rfl k) ?_
    have j86 : ∀ (don : Int64) (hD : 0 ≤ don.toInt), Done p e below (Prm0 s Z x0 x1 x2 h0 n0) (s₁.setTop (mkF m 86 #[.val (.long x0), .second, .val (.long x1), .second, .val (.int x2), .val (.long lim), .second, .val (.int ((x2 >>> ((3 : Int32) &&& 31)) &&& (3 : Int32))), .val (.long don), .second, .unset, .unset, .unset, .unset, .unset, .unset, .unset] [])) := by
      intro don hD
      obtain ⟨T1, h1, X1, e1, E1, A1, D1, -, st1⟩ := newO X0 hx hZ hown (hw _ (List.mem_of_getElem? (i := 1) rfl)) (hw _ (List.mem_of_getElem? (i := 2) rfl)) (hw _ (List.mem_of_getElem? (i := 3) rfl)) e0 (g := (mkF m 86 #[.val (.long x0), .second, .val (.long x1), .second, .val (.int x2), .val (.long lim), .second, .val (.int ((x2 >>> ((3 : Int32) &&& 31)) &&& (3 : Int32))), .val (.long don), .second, .unset, .unset, .unset, .unset, .unset, .unset, .unset] [])) rfl (hb hby at_86) (by decide) (by decide)
      obtain ⟨b1, g1⟩ : ∃ z, z = h0.size := ⟨_, rfl⟩
      rw [← g1] at A1 D1 st1
      have ge_b1 : n0 ≤ b1 := Nat.le_trans Z0 (Nat.le_of_eq g1.symm)
      have Z1 : n0 ≤ h1.size := Nat.le_trans Z0 E1.1
      have F1_limit : Fld Z h1 b1 "com/example/percurso/percurso/completeness/Work" "limit" "J" (.long (0 : Int64)) := D1 (Or.inl (hw _ (List.mem_of_getElem? (i := 11) rfl))) (ty := .long) (by decide)
      have F1_done : Fld Z h1 b1 "com/example/percurso/percurso/completeness/Work" "done" "J" (.long (0 : Int64)) := D1 (Or.inl (hw _ (List.mem_of_getElem? (i := 18) rfl))) (ty := .long) (by decide)
      refine Done.st (B := T1.setTop (mkF m 89 #[.val (.long x0), .second, .val (.long x1), .second, .val (.int x2), .val (.long lim), .second, .val (.int ((x2 >>> ((3 : Int32) &&& 31)) &&& (3 : Int32))), .val (.long don), .second, .unset, .unset, .unset, .unset, .unset, .unset, .unset] [(.ref b1)])) (fun _ k => st1 _ k) ?_
      refine Done.st (B := T1.setTop (mkF m 90 #[.val (.long x0), .second, .val (.long x1), .second, .val (.int x2), .val (.long lim), .second, .val (.int ((x2 >>> ((3 : Int32) &&& 31)) &&& (3 : Int32))), .val (.long don), .second, .unset, .unset, .unset, .unset, .unset, .unset, .unset] [(.ref b1), (.ref b1)])) (fun _ k => XS.dup X1.here hx rfl (hb hby at_89) rfl rfl k) ?_
      refine Done.st (B := T1.setTop (mkF m 92 #[.val (.long x0), .second, .val (.long x1), .second, .val (.int x2), .val (.long lim), .second, .val (.int ((x2 >>> ((3 : Int32) &&& 31)) &&& (3 : Int32))), .val (.long don), .second, .unset, .unset, .unset, .unset, .unset, .unset, .unset] [(.long lim), (.ref b1), (.ref b1)])) (fun _ k => XS.lload X1.here hx rfl (hb hby at_90) rfl k) ?_
      obtain ⟨_, _, ⟨T2, L2, k2, n2⟩, -, X2, ⟨Lc2, hQ2, l2, y2, z2⟩, st2⟩ := X1.specialBack hx (y := (⟨"com/example/percurso/percurso/completeness/Work", "<init>", "(J)V"⟩ : MethodName)) rfl hown (mvT hZ (hw _ (List.mem_of_getElem? (i := 4) rfl))) (mvT hZ (hw _ (List.mem_of_getElem? (i := 5) rfl))) (mvT hZ (hw _ (List.mem_of_getElem? (i := 6) rfl))) (by decide) (backOf (W := 1) (rm1 l Z a0 hw [] b1 lim (0 : Int64) (0 : Int64) h1 n0 Z1 F1_limit F1_done A1 ge_b1) hZ (hw _ (List.mem_of_getElem? (i := 6) rfl)) (hw _ (List.mem_of_getElem? (i := 3) rfl)) (by decide) (by decide)) (g := (mkF m 92 #[.val (.long x0), .second, .val (.long x1), .second, .val (.int x2), .val (.long lim), .second, .val (.int ((x2 >>> ((3 : Int32) &&& 31)) &&& (3 : Int32))), .val (.long don), .second, .unset, .unset, .unset, .unset, .unset, .unset, .unset] [(.long lim), (.ref b1), (.ref b1)])) rfl (by rw [hml]; rfl) (Steps.refl _) (a := b1) (argsL := [(.long lim)]) (rest := [(.ref b1)]) (lenOf pd_0 rfl) rfl (by show 2 * 0 + _ ≤ _; exact Nat.le_of_eq rfl) (hb hby at_92) (fun _ _ => ⟨rfl, e1, (by decide : 1 + 0 ≤ _), (by decide : 2 + 0 ≤ _)⟩)
      dsimp only [Pt.U, Pt.locs, Pt.cells, Pt.slots] at X2 l2 y2 z2 st2 hQ2
      subst l2 y2 z2
      obtain ⟨rfl, N2q, K2, f2_0, f2_1, f2_2⟩ := hQ2
      have N2 := Fr.app N0 N2q
      have Z2 : n0 ≤ T2.heap.size := Nat.le_trans Z1 K2.1
      refine Done.st (B := T2.setTop (mkF m 95 #[.val (.long x0), .second, .val (.long x1), .second, .val (.int x2), .val (.long lim), .second, .val (.int ((x2 >>> ((3 : Int32) &&& 31)) &&& (3 : Int32))), .val (.long don), .second, .unset, .unset, .unset, .unset, .unset, .unset, .unset] [(.ref b1)])) (fun _ k => st2.trans k) ?_
      refine Done.st (B := T2.setTop (mkF m 97 #[.val (.long x0), .second, .val (.long x1), .second, .val (.int x2), .val (.long lim), .second, .val (.int ((x2 >>> ((3 : Int32) &&& 31)) &&& (3 : Int32))), .val (.long don), .second, .val (.ref b1), .unset, .unset, .unset, .unset, .unset, .unset] [])) (fun _ k => XS.astore X2.here hx rfl (hb hby at_95) rfl rfl (l' := #[.val (.long x0), .second, .val (.long x1), .second, .val (.int x2), .val (.long lim), .second, .val (.int ((x2 >>> ((3 : Int32) &&& 31)) &&& (3 : Int32))), .val (.long don), .second, .val (.ref b1), .unset, .unset, .unset, .unset, .unset, .unset]) rfl k) ?_
      refine Done.st (B := T2.setTop (mkF m 99 #[.val (.long x0), .second, .val (.long x1), .second, .val (.int x2), .val (.long lim), .second, .val (.int ((x2 >>> ((3 : Int32) &&& 31)) &&& (3 : Int32))), .val (.long don), .second, .val (.ref b1), .unset, .unset, .unset, .unset, .unset, .unset] [(.ref b1)])) (fun _ k => XS.aload X2.here hx rfl (hb hby at_97) rfl rfl k) ?_
      refine Done.st (B := T2.setTop (mkF m 101 #[.val (.long x0), .second, .val (.long x1), .second, .val (.int x2), .val (.long lim), .second, .val (.int ((x2 >>> ((3 : Int32) &&& 31)) &&& (3 : Int32))), .val (.long don), .second, .val (.ref b1), .unset, .unset, .unset, .unset, .unset, .unset] [(.long don), (.ref b1)])) (fun _ k => XS.lload X2.here hx rfl (hb hby at_99) rfl k) ?_
      obtain ⟨cq3, kq3, q3a, q3b, q3c⟩ := isOf hZ rfl f2_0
      obtain ⟨_, _, ⟨T3, L3, k3, n3⟩, -, X3, ⟨Lc3, hQ3, l3, y3, z3⟩, st3⟩ := X2.virtualBack hx (y := (⟨"com/example/percurso/percurso/completeness/Work", "add", "(J)V"⟩ : MethodName)) (z := (⟨"com/example/percurso/percurso/completeness/Work", "add", "(J)V"⟩ : MethodName)) hown (mvT hZ (hw _ (List.mem_of_getElem? (i := 12) rfl))) (mvT hZ (hw _ (List.mem_of_getElem? (i := 13) rfl))) (notFace_of_selects (args := #[]) (mvT hZ (hw _ (List.mem_of_getElem? (i := 15) rfl)))) (mvT hZ (hw _ (List.mem_of_getElem? (i := 15) rfl))) (mvT hZ (hw _ (List.mem_of_getElem? (i := 14) rfl))) (by decide) (backOf (W := 0) (rm3 l Z a0 hw [] b1 don lim (0 : Int64) T2.heap n0 Z2 f2_1 f2_2 f2_0 ge_b1) hZ (hw _ (List.mem_of_getElem? (i := 16) rfl)) (hw _ (List.mem_of_getElem? (i := 3) rfl)) (by decide) (by decide)) q3a q3c (g := (mkF m 101 #[.val (.long x0), .second, .val (.long x1), .second, .val (.int x2), .val (.long lim), .second, .val (.int ((x2 >>> ((3 : Int32) &&& 31)) &&& (3 : Int32))), .val (.long don), .second, .val (.ref b1), .unset, .unset, .unset, .unset, .unset, .unset] [(.long don), (.ref b1)])) rfl (by rw [hml]; rfl) (Steps.refl _) (argsL := [(.long don)]) (rest := []) (lenOf pd_0 rfl) rfl (by show 2 * 0 + _ ≤ _; exact Nat.le_of_eq rfl) (hb hby at_101) (fun _ _ => ⟨rfl, rfl, (by decide : 1 + 0 ≤ _), (by decide : 2 + 0 ≤ _)⟩)
      dsimp only [Pt.U, Pt.locs, Pt.cells, Pt.slots] at X3 l3 y3 z3 st3 hQ3
      subst l3 y3 z3
      obtain ⟨rfl, N3q, K3, f3_0, f3_1, f3_2⟩ := hQ3
      have N3 := Fr.app N2 N3q
      have Z3 : n0 ≤ T3.heap.size := Nat.le_trans Z2 K3.1
      rw [own_z0] at f3_2
      refine Done.st (B := T3.setTop (mkF m 104 #[.val (.long x0), .second, .val (.long x1), .second, .val (.int x2), .val (.long lim), .second, .val (.int ((x2 >>> ((3 : Int32) &&& 31)) &&& (3 : Int32))), .val (.long don), .second, .val (.ref b1), .unset, .unset, .unset, .unset, .unset, .unset] [])) (fun _ k => st3.trans k) ?_
      refine Done.st (B := T3.setTop (mkF m 106 #[.val (.long x0), .second, .val (.long x1), .second, .val (.int x2), .val (.long lim), .second, .val (.int ((x2 >>> ((3 : Int32) &&& 31)) &&& (3 : Int32))), .val (.long don), .second, .val (.ref b1), .unset, .unset, .unset, .unset, .unset, .unset] [(.ref b1)])) (fun _ k => XS.aload X3.here hx rfl (hb hby at_104) rfl rfl k) ?_
      obtain ⟨cq4, kq4, q4a, q4b, q4c⟩ := isOf hZ rfl f3_0
      obtain ⟨_, _, ⟨T4, L4, k4, n4⟩, -, X4, ⟨Lc4, hQ4, l4, y4, z4⟩, st4⟩ := X3.virtualBack hx (y := (⟨"com/example/percurso/percurso/completeness/Work", "untilSpent", "()J"⟩ : MethodName)) (z := (⟨"com/example/percurso/percurso/completeness/Work", "untilSpent", "()J"⟩ : MethodName)) hown (mvT hZ (hw _ (List.mem_of_getElem? (i := 19) rfl))) (mvT hZ (hw _ (List.mem_of_getElem? (i := 20) rfl))) (notFace_of_selects (args := #[]) (mvT hZ (hw _ (List.mem_of_getElem? (i := 22) rfl)))) (mvT hZ (hw _ (List.mem_of_getElem? (i := 22) rfl))) (mvT hZ (hw _ (List.mem_of_getElem? (i := 21) rfl))) (by decide) (backOf (W := 0) (rm4 l Z a0 hw [] b1 lim don T3.heap n0 Z3 f3_1 f3_2 f3_0 ge_b1) hZ (hw _ (List.mem_of_getElem? (i := 23) rfl)) (hw _ (List.mem_of_getElem? (i := 3) rfl)) (by decide) (by decide)) q4a q4c (g := (mkF m 106 #[.val (.long x0), .second, .val (.long x1), .second, .val (.int x2), .val (.long lim), .second, .val (.int ((x2 >>> ((3 : Int32) &&& 31)) &&& (3 : Int32))), .val (.long don), .second, .val (.ref b1), .unset, .unset, .unset, .unset, .unset, .unset] [(.ref b1)])) rfl (by rw [hml]; rfl) (Steps.refl _) (argsL := []) (rest := []) (lenOf pd_1 rfl) rfl (by show 2 * 0 + _ ≤ _; exact Nat.le_of_eq rfl) (hb hby at_106) (fun _ _ => ⟨rfl, rfl, (by decide : 1 + 0 ≤ _), (by decide : 2 + 0 ≤ _)⟩)
      dsimp only [Pt.U, Pt.locs, Pt.cells, Pt.slots] at X4 l4 y4 z4 st4 hQ4
      subst l4 y4 z4
      obtain ⟨rfl, N4q, e4⟩ := hQ4
      have N4 := Fr.app N3 N4q
      refine Done.st (B := T4.setTop (mkF m 109 #[.val (.long x0), .second, .val (.long x1), .second, .val (.int x2), .val (.long lim), .second, .val (.int ((x2 >>> ((3 : Int32) &&& 31)) &&& (3 : Int32))), .val (.long don), .second, .val (.ref b1), .unset, .unset, .unset, .unset, .unset, .unset] [(.long (own_until lim don))])) (fun _ k => st4.trans k) ?_
      refine Done.st (B := T4.setTop (mkF m 111 #[.val (.long x0), .second, .val (.long x1), .second, .val (.int x2), .val (.long lim), .second, .val (.int ((x2 >>> ((3 : Int32) &&& 31)) &&& (3 : Int32))), .val (.long don), .second, .val (.ref b1), .val (.long (own_until lim don)), .second, .unset, .unset, .unset, .unset] [])) (fun _ k => XS.lstore X4.here hx rfl (hb hby at_109) rfl (l' := #[.val (.long x0), .second, .val (.long x1), .second, .val (.int x2), .val (.long lim), .second, .val (.int ((x2 >>> ((3 : Int32) &&& 31)) &&& (3 : Int32))), .val (.long don), .second, .val (.ref b1), .val (.long (own_until lim don)), .second, .unset, .unset, .unset, .unset]) rfl k) ?_
      have j158 : ∀ (exp : Int64) (hexp : (own_until lim don) = exp), Done p e below (Prm0 s Z x0 x1 x2 h0 n0) (T4.setTop (mkF m 158 #[.val (.long x0), .second, .val (.long x1), .second, .val (.int x2), .val (.long lim), .second, .val (.int ((x2 >>> ((3 : Int32) &&& 31)) &&& (3 : Int32))), .val (.long don), .second, .val (.ref b1), .val (.long (own_until lim don)), .second, .val (.long exp), .second, .unset, .unset] [])) := by
        intro exp hexp
        refine Done.st (B := T4.setTop (mkF m 160 #[.val (.long x0), .second, .val (.long x1), .second, .val (.int x2), .val (.long lim), .second, .val (.int ((x2 >>> ((3 : Int32) &&& 31)) &&& (3 : Int32))), .val (.long don), .second, .val (.ref b1), .val (.long (own_until lim don)), .second, .val (.long exp), .second, .unset, .unset] [(.long (own_until lim don))])) (fun _ k => XS.lload X4.here hx rfl (hb hby at_158) rfl k) ?_
        refine Done.st (B := T4.setTop (mkF m 162 #[.val (.long x0), .second, .val (.long x1), .second, .val (.int x2), .val (.long lim), .second, .val (.int ((x2 >>> ((3 : Int32) &&& 31)) &&& (3 : Int32))), .val (.long don), .second, .val (.ref b1), .val (.long (own_until lim don)), .second, .val (.long exp), .second, .unset, .unset] [(.long exp), (.long (own_until lim don))])) (fun _ k => XS.lload X4.here hx rfl (hb hby at_160) rfl k) ?_
        refine Done.st (B := T4.setTop (mkF m 163 #[.val (.long x0), .second, .val (.long x1), .second, .val (.int x2), .val (.long lim), .second, .val (.int ((x2 >>> ((3 : Int32) &&& 31)) &&& (3 : Int32))), .val (.long don), .second, .val (.ref b1), .val (.long (own_until lim don)), .second, .val (.long exp), .second, .unset, .unset] [(.int (lcmpW (own_until lim don) exp))])) (fun _ k => XS.lcmp X4.here hx rfl (hb hby at_162) rfl k) ?_
        refine Done.st (B := T4.setTop (mkF m 166 #[.val (.long x0), .second, .val (.long x1), .second, .val (.int x2), .val (.long lim), .second, .val (.int ((x2 >>> ((3 : Int32) &&& 31)) &&& (3 : Int32))), .val (.long don), .second, .val (.ref b1), .val (.long (own_until lim don)), .second, .val (.long exp), .second, .unset, .unset] [])) (fun _ k => XS.ifNo X4.here hx rfl (hb hby at_163) rfl ((if0 _ _).trans (teq ((lw_eq _ _).mpr hexp)).2) k) ?_
        refine Done.st (B := T4.setTop (mkF m 167 #[.val (.long x0), .second, .val (.long x1), .second, .val (.int x2), .val (.long lim), .second, .val (.int ((x2 >>> ((3 : Int32) &&& 31)) &&& (3 : Int32))), .val (.long don), .second, .val (.ref b1), .val (.long (own_until lim don)), .second, .val (.long exp), .second, .unset, .unset] [(.int (1 : Int32))])) (fun _ k => XS.iconst X4.here hx rfl (hb hby at_166) k) ?_
        refine Done.st (B := T4.setTop (mkF m 171 #[.val (.long x0), .second, .val (.long x1), .second, .val (.int x2), .val (.long lim), .second, .val (.int ((x2 >>> ((3 : Int32) &&& 31)) &&& (3 : Int32))), .val (.long don), .second, .val (.ref b1), .val (.long (own_until lim don)), .second, .val (.long exp), .second, .unset, .unset] [(.int (1 : Int32))])) (fun _ k => XS.goto X4.here hx rfl (pc0 := 167) (pc' := 171) rfl (hb hby at_167) (by decide) (by decide) k) ?_
        refine Done.st (B := T4.setTop (mkF m 173 #[.val (.long x0), .second, .val (.long x1), .second, .val (.int x2), .val (.long lim), .second, .val (.int ((x2 >>> ((3 : Int32) &&& 31)) &&& (3 : Int32))), .val (.long don), .second, .val (.ref b1), .val (.long (own_until lim don)), .second, .val (.long exp), .second, .val (.int (1 : Int32)), .unset] [])) (fun _ k => XS.istore X4.here hx rfl (hb hby at_171) rfl (l' := #[.val (.long x0), .second, .val (.long x1), .second, .val (.int x2), .val (.long lim), .second, .val (.int ((x2 >>> ((3 : Int32) &&& 31)) &&& (3 : Int32))), .val (.long don), .second, .val (.ref b1), .val (.long (own_until lim don)), .second, .val (.long exp), .second, .val (.int (1 : Int32)), .unset]) rfl k) ?_
        refine Done.st (B := T4.setTop (mkF m 175 #[.val (.long x0), .second, .val (.long x1), .second, .val (.int x2), .val (.long lim), .second, .val (.int ((x2 >>> ((3 : Int32) &&& 31)) &&& (3 : Int32))), .val (.long don), .second, .val (.ref b1), .val (.long (own_until lim don)), .second, .val (.long exp), .second, .val (.int (1 : Int32)), .unset] [(.int (1 : Int32))])) (fun _ k => XS.iload X4.here hx rfl (hb hby at_173) rfl k) ?_
        refine Done.st (B := T4.setTop (mkF m 178 #[.val (.long x0), .second, .val (.long x1), .second, .val (.int x2), .val (.long lim), .second, .val (.int ((x2 >>> ((3 : Int32) &&& 31)) &&& (3 : Int32))), .val (.long don), .second, .val (.ref b1), .val (.long (own_until lim don)), .second, .val (.long exp), .second, .val (.int (1 : Int32)), .unset] [])) (fun _ k => XS.ifNo X4.here hx rfl (hb hby at_175) rfl ((if0 _ _).trans (feq (by decide : ¬ ((1 : Int32) = (0 : Int32)))).1) k) ?_
        refine Done.st (B := T4.setTop (mkF m 180 #[.val (.long x0), .second, .val (.long x1), .second, .val (.int x2), .val (.long lim), .second, .val (.int ((x2 >>> ((3 : Int32) &&& 31)) &&& (3 : Int32))), .val (.long don), .second, .val (.ref b1), .val (.long (own_until lim don)), .second, .val (.long exp), .second, .val (.int (1 : Int32)), .unset] [(.long (own_until lim don))])) (fun _ k => XS.lload X4.here hx rfl (hb hby at_178) rfl k) ?_
        refine Done.st (B := T4.setTop (mkF m 181 #[.val (.long x0), .second, .val (.long x1), .second, .val (.int x2), .val (.long lim), .second, .val (.int ((x2 >>> ((3 : Int32) &&& 31)) &&& (3 : Int32))), .val (.long don), .second, .val (.ref b1), .val (.long (own_until lim don)), .second, .val (.long exp), .second, .val (.int (1 : Int32)), .unset] [(.long (0 : Int64)), (.long (own_until lim don))])) (fun _ k => XS.lconst X4.here hx rfl (hb hby at_180) k) ?_
        refine Done.st (B := T4.setTop (mkF m 182 #[.val (.long x0), .second, .val (.long x1), .second, .val (.int x2), .val (.long lim), .second, .val (.int ((x2 >>> ((3 : Int32) &&& 31)) &&& (3 : Int32))), .val (.long don), .second, .val (.ref b1), .val (.long (own_until lim don)), .second, .val (.long exp), .second, .val (.int (1 : Int32)), .unset] [(.int (lcmpW (own_until lim don) (0 : Int64)))])) (fun _ k => XS.lcmp X4.here hx rfl (hb hby at_181) rfl k) ?_
        by_cases hc182 : (own_until lim don) = (0 : Int64)
        · refine Done.st (B := T4.setTop (mkF m 185 #[.val (.long x0), .second, .val (.long x1), .second, .val (.int x2), .val (.long lim), .second, .val (.int ((x2 >>> ((3 : Int32) &&& 31)) &&& (3 : Int32))), .val (.long don), .second, .val (.ref b1), .val (.long (own_until lim don)), .second, .val (.long exp), .second, .val (.int (1 : Int32)), .unset] [])) (fun _ k => XS.ifNo X4.here hx rfl (hb hby at_182) rfl ((if0 _ _).trans (teq ((lw_eq _ _).mpr hc182)).2) k) ?_
          refine Done.st (B := T4.setTop (mkF m 186 #[.val (.long x0), .second, .val (.long x1), .second, .val (.int x2), .val (.long lim), .second, .val (.int ((x2 >>> ((3 : Int32) &&& 31)) &&& (3 : Int32))), .val (.long don), .second, .val (.ref b1), .val (.long (own_until lim don)), .second, .val (.long exp), .second, .val (.int (1 : Int32)), .unset] [(.int (1 : Int32))])) (fun _ k => XS.iconst X4.here hx rfl (hb hby at_185) k) ?_
          refine Done.st (B := T4.setTop (mkF m 190 #[.val (.long x0), .second, .val (.long x1), .second, .val (.int x2), .val (.long lim), .second, .val (.int ((x2 >>> ((3 : Int32) &&& 31)) &&& (3 : Int32))), .val (.long don), .second, .val (.ref b1), .val (.long (own_until lim don)), .second, .val (.long exp), .second, .val (.int (1 : Int32)), .unset] [(.int (1 : Int32))])) (fun _ k => XS.goto X4.here hx rfl (pc0 := 186) (pc' := 190) rfl (hb hby at_186) (by decide) (by decide) k) ?_
          refine Done.st (B := T4.setTop (mkF m 192 #[.val (.long x0), .second, .val (.long x1), .second, .val (.int x2), .val (.long lim), .second, .val (.int ((x2 >>> ((3 : Int32) &&& 31)) &&& (3 : Int32))), .val (.long don), .second, .val (.ref b1), .val (.long (own_until lim don)), .second, .val (.long exp), .second, .val (.int (1 : Int32)), .unset] [(.ref b1), (.int (1 : Int32))])) (fun _ k => XS.aload X4.here hx rfl (hb hby at_190) rfl rfl k) ?_
          obtain ⟨cq5, kq5, q5a, q5b, q5c⟩ := isOf hZ e4 f3_0
          obtain ⟨_, _, ⟨T5, L5, k5, n5⟩, -, X5, ⟨Lc5, hQ5, l5, y5, z5⟩, st5⟩ := X4.virtualBack hx (y := (⟨"com/example/percurso/percurso/completeness/Work", "spent", "()Z"⟩ : MethodName)) (z := (⟨"com/example/percurso/percurso/completeness/Work", "spent", "()Z"⟩ : MethodName)) hown (mvT hZ (hw _ (List.mem_of_getElem? (i := 25) rfl))) (mvT hZ (hw _ (List.mem_of_getElem? (i := 26) rfl))) (notFace_of_selects (args := #[]) (mvT hZ (hw _ (List.mem_of_getElem? (i := 28) rfl)))) (mvT hZ (hw _ (List.mem_of_getElem? (i := 28) rfl))) (mvT hZ (hw _ (List.mem_of_getElem? (i := 27) rfl))) (by decide) (backOf (W := 1) (rm5 l Z a0 hw [] b1 lim don T3.heap n0 Z3 f3_1 f3_2 f3_0 ge_b1) hZ (hw _ (List.mem_of_getElem? (i := 29) rfl)) (hw _ (List.mem_of_getElem? (i := 3) rfl)) (by decide) (by decide)) q5a q5c (g := (mkF m 192 #[.val (.long x0), .second, .val (.long x1), .second, .val (.int x2), .val (.long lim), .second, .val (.int ((x2 >>> ((3 : Int32) &&& 31)) &&& (3 : Int32))), .val (.long don), .second, .val (.ref b1), .val (.long (own_until lim don)), .second, .val (.long exp), .second, .val (.int (1 : Int32)), .unset] [(.ref b1), (.int (1 : Int32))])) rfl (by rw [hml]; rfl) (Steps.refl _) (argsL := []) (rest := [(.int (1 : Int32))]) (lenOf pd_2 rfl) rfl (by show 2 * 0 + _ ≤ _; exact Nat.le_of_eq rfl) (hb hby at_192) (fun _ _ => ⟨rfl, e4, (by decide : 1 + 0 ≤ _), (by decide : 2 + 0 ≤ _)⟩)
          dsimp only [Pt.U, Pt.locs, Pt.cells, Pt.slots] at X5 l5 y5 z5 st5 hQ5
          subst l5 y5 z5
          obtain ⟨rfl, N5q, e5⟩ := hQ5
          have N5 := Fr.app N4 N5q
          refine Done.st (B := T5.setTop (mkF m 195 #[.val (.long x0), .second, .val (.long x1), .second, .val (.int x2), .val (.long lim), .second, .val (.int ((x2 >>> ((3 : Int32) &&& 31)) &&& (3 : Int32))), .val (.long don), .second, .val (.ref b1), .val (.long (own_until lim don)), .second, .val (.long exp), .second, .val (.int (1 : Int32)), .unset] [(.int (own_spent don lim)), (.int (1 : Int32))])) (fun _ k => st5.trans k) ?_
          refine Done.st (B := T5.setTop (mkF m 198 #[.val (.long x0), .second, .val (.long x1), .second, .val (.int x2), .val (.long lim), .second, .val (.int ((x2 >>> ((3 : Int32) &&& 31)) &&& (3 : Int32))), .val (.long don), .second, .val (.ref b1), .val (.long (own_until lim don)), .second, .val (.long exp), .second, .val (.int (1 : Int32)), .unset] [])) (fun _ k => XS.icmpNo X5.here hx rfl (hb hby at_195) rfl (teq (own_sp1 hL hD hc182)).2 k) ?_
          refine Done.st (B := T5.setTop (mkF m 199 #[.val (.long x0), .second, .val (.long x1), .second, .val (.int x2), .val (.long lim), .second, .val (.int ((x2 >>> ((3 : Int32) &&& 31)) &&& (3 : Int32))), .val (.long don), .second, .val (.ref b1), .val (.long (own_until lim don)), .second, .val (.long exp), .second, .val (.int (1 : Int32)), .unset] [(.int (1 : Int32))])) (fun _ k => XS.iconst X5.here hx rfl (hb hby at_198) k) ?_
          refine Done.st (B := T5.setTop (mkF m 203 #[.val (.long x0), .second, .val (.long x1), .second, .val (.int x2), .val (.long lim), .second, .val (.int ((x2 >>> ((3 : Int32) &&& 31)) &&& (3 : Int32))), .val (.long don), .second, .val (.ref b1), .val (.long (own_until lim don)), .second, .val (.long exp), .second, .val (.int (1 : Int32)), .unset] [(.int (1 : Int32))])) (fun _ k => XS.goto X5.here hx rfl (pc0 := 199) (pc' := 203) rfl (hb hby at_199) (by decide) (by decide) k) ?_
          refine Done.st (B := T5.setTop (mkF m 205 #[.val (.long x0), .second, .val (.long x1), .second, .val (.int x2), .val (.long lim), .second, .val (.int ((x2 >>> ((3 : Int32) &&& 31)) &&& (3 : Int32))), .val (.long don), .second, .val (.ref b1), .val (.long (own_until lim don)), .second, .val (.long exp), .second, .val (.int (1 : Int32)), .unset] [])) (fun _ k => XS.istore X5.here hx rfl (hb hby at_203) rfl (l' := #[.val (.long x0), .second, .val (.long x1), .second, .val (.int x2), .val (.long lim), .second, .val (.int ((x2 >>> ((3 : Int32) &&& 31)) &&& (3 : Int32))), .val (.long don), .second, .val (.ref b1), .val (.long (own_until lim don)), .second, .val (.long exp), .second, .val (.int (1 : Int32)), .unset]) rfl k) ?_
          refine Done.st (B := T5.setTop (mkF m 207 #[.val (.long x0), .second, .val (.long x1), .second, .val (.int x2), .val (.long lim), .second, .val (.int ((x2 >>> ((3 : Int32) &&& 31)) &&& (3 : Int32))), .val (.long don), .second, .val (.ref b1), .val (.long (own_until lim don)), .second, .val (.long exp), .second, .val (.int (1 : Int32)), .unset] [(.int (1 : Int32))])) (fun _ k => XS.iload X5.here hx rfl (hb hby at_205) rfl k) ?_
          refine Done.st (B := T5.setTop (mkF m 210 #[.val (.long x0), .second, .val (.long x1), .second, .val (.int x2), .val (.long lim), .second, .val (.int ((x2 >>> ((3 : Int32) &&& 31)) &&& (3 : Int32))), .val (.long don), .second, .val (.ref b1), .val (.long (own_until lim don)), .second, .val (.long exp), .second, .val (.int (1 : Int32)), .unset] [])) (fun _ k => XS.ifNo X5.here hx rfl (hb hby at_207) rfl ((if0 _ _).trans (feq (by decide : ¬ ((1 : Int32) = (0 : Int32)))).1) k) ?_
          refine Done.st (B := T5.setTop (mkF m 212 #[.val (.long x0), .second, .val (.long x1), .second, .val (.int x2), .val (.long lim), .second, .val (.int ((x2 >>> ((3 : Int32) &&& 31)) &&& (3 : Int32))), .val (.long don), .second, .val (.ref b1), .val (.long (own_until lim don)), .second, .val (.long exp), .second, .val (.int (1 : Int32)), .unset] [(.long (own_until lim don))])) (fun _ k => XS.lload X5.here hx rfl (hb hby at_210) rfl k) ?_
          refine Done.st (B := T5.setTop (mkF m 213 #[.val (.long x0), .second, .val (.long x1), .second, .val (.int x2), .val (.long lim), .second, .val (.int ((x2 >>> ((3 : Int32) &&& 31)) &&& (3 : Int32))), .val (.long don), .second, .val (.ref b1), .val (.long (own_until lim don)), .second, .val (.long exp), .second, .val (.int (1 : Int32)), .unset] [(.long (0 : Int64)), (.long (own_until lim don))])) (fun _ k => XS.lconst X5.here hx rfl (hb hby at_212) k) ?_
          refine Done.st (B := T5.setTop (mkF m 214 #[.val (.long x0), .second, .val (.long x1), .second, .val (.int x2), .val (.long lim), .second, .val (.int ((x2 >>> ((3 : Int32) &&& 31)) &&& (3 : Int32))), .val (.long don), .second, .val (.ref b1), .val (.long (own_until lim don)), .second, .val (.long exp), .second, .val (.int (1 : Int32)), .unset] [(.int (lcmpW (own_until lim don) (0 : Int64)))])) (fun _ k => XS.lcmp X5.here hx rfl (hb hby at_213) rfl k) ?_
          by_cases hc214 : (0 : Int64) < (own_until lim don)
          · refine Done.st (B := T5.setTop (mkF m 217 #[.val (.long x0), .second, .val (.long x1), .second, .val (.int x2), .val (.long lim), .second, .val (.int ((x2 >>> ((3 : Int32) &&& 31)) &&& (3 : Int32))), .val (.long don), .second, .val (.ref b1), .val (.long (own_until lim don)), .second, .val (.long exp), .second, .val (.int (1 : Int32)), .unset] [])) (fun _ k => XS.ifNo X5.here hx rfl (hb hby at_214) rfl ((if0 _ _).trans (tlt ((lw_gt _ _).mpr hc214)).2.2.2) k) ?_
            refine Done.st (B := T5.setTop (mkF m 219 #[.val (.long x0), .second, .val (.long x1), .second, .val (.int x2), .val (.long lim), .second, .val (.int ((x2 >>> ((3 : Int32) &&& 31)) &&& (3 : Int32))), .val (.long don), .second, .val (.ref b1), .val (.long (own_until lim don)), .second, .val (.long exp), .second, .val (.int (1 : Int32)), .unset] [(.long (own_until lim don))])) (fun _ k => XS.lload X5.here hx rfl (hb hby at_217) rfl k) ?_
            refine Done.st (B := T5.setTop (mkF m 222 #[.val (.long x0), .second, .val (.long x1), .second, .val (.int x2), .val (.long lim), .second, .val (.int ((x2 >>> ((3 : Int32) &&& 31)) &&& (3 : Int32))), .val (.long don), .second, .val (.ref b1), .val (.long (own_until lim don)), .second, .val (.long exp), .second, .val (.int (1 : Int32)), .unset] [(.long (9223372036854775807 : Int64)), (.long (own_until lim don))])) (fun _ k => X5.ldc2Long hx hown (mvT hZ (hw _ (List.mem_of_getElem? (i := 0) rfl))) (g := (mkF m 219 #[.val (.long x0), .second, .val (.long x1), .second, .val (.int x2), .val (.long lim), .second, .val (.int ((x2 >>> ((3 : Int32) &&& 31)) &&& (3 : Int32))), .val (.long don), .second, .val (.ref b1), .val (.long (own_until lim don)), .second, .val (.long exp), .second, .val (.int (1 : Int32)), .unset] [(.long (own_until lim don))])) rfl (hb hby at_219) _ k) ?_
            refine Done.st (B := T5.setTop (mkF m 223 #[.val (.long x0), .second, .val (.long x1), .second, .val (.int x2), .val (.long lim), .second, .val (.int ((x2 >>> ((3 : Int32) &&& 31)) &&& (3 : Int32))), .val (.long don), .second, .val (.ref b1), .val (.long (own_until lim don)), .second, .val (.long exp), .second, .val (.int (1 : Int32)), .unset] [(.int (lcmpW (own_until lim don) (9223372036854775807 : Int64)))])) (fun _ k => XS.lcmp X5.here hx rfl (hb hby at_222) rfl k) ?_
            by_cases hc223 : (own_until lim don) < (9223372036854775807 : Int64)
            · refine Done.st (B := T5.setTop (mkF m 226 #[.val (.long x0), .second, .val (.long x1), .second, .val (.int x2), .val (.long lim), .second, .val (.int ((x2 >>> ((3 : Int32) &&& 31)) &&& (3 : Int32))), .val (.long don), .second, .val (.ref b1), .val (.long (own_until lim don)), .second, .val (.long exp), .second, .val (.int (1 : Int32)), .unset] [])) (fun _ k => XS.ifNo X5.here hx rfl (hb hby at_223) rfl ((if0 _ _).trans (tlt ((lw_lt _ _).mpr hc223)).2.1) k) ?_
              refine Done.st (B := T5.setTop (mkF m 228 #[.val (.long x0), .second, .val (.long x1), .second, .val (.int x2), .val (.long lim), .second, .val (.int ((x2 >>> ((3 : Int32) &&& 31)) &&& (3 : Int32))), .val (.long don), .second, .val (.ref b1), .val (.long (own_until lim don)), .second, .val (.long exp), .second, .val (.int (1 : Int32)), .unset] [(.ref b1)])) (fun _ k => XS.aload X5.here hx rfl (hb hby at_226) rfl rfl k) ?_
              obtain ⟨cq6, kq6, q6a, q6b, q6c⟩ := isOf hZ e5 f3_0
              obtain ⟨_, _, ⟨T6, L6, k6, n6⟩, -, X6, ⟨Lc6, hQ6, l6, y6, z6⟩, st6⟩ := X5.virtualBack hx (y := (⟨"com/example/percurso/percurso/completeness/Work", "copy", "()Lcom/example/percurso/percurso/completeness/Work;"⟩ : MethodName)) (z := (⟨"com/example/percurso/percurso/completeness/Work", "copy", "()Lcom/example/percurso/percurso/completeness/Work;"⟩ : MethodName)) hown (mvT hZ (hw _ (List.mem_of_getElem? (i := 30) rfl))) (mvT hZ (hw _ (List.mem_of_getElem? (i := 31) rfl))) (notFace_of_selects (args := #[]) (mvT hZ (hw _ (List.mem_of_getElem? (i := 33) rfl)))) (mvT hZ (hw _ (List.mem_of_getElem? (i := 33) rfl))) (mvT hZ (hw _ (List.mem_of_getElem? (i := 32) rfl))) (by decide) (backOf (W := 0) (rm6 l Z a0 hw [] b1 lim don T3.heap n0 Z3 f3_1 f3_2 f3_0 ge_b1) hZ (hw _ (List.mem_of_getElem? (i := 34) rfl)) (hw _ (List.mem_of_getElem? (i := 3) rfl)) (by decide) (by decide)) q6a q6c (g := (mkF m 228 #[.val (.long x0), .second, .val (.long x1), .second, .val (.int x2), .val (.long lim), .second, .val (.int ((x2 >>> ((3 : Int32) &&& 31)) &&& (3 : Int32))), .val (.long don), .second, .val (.ref b1), .val (.long (own_until lim don)), .second, .val (.long exp), .second, .val (.int (1 : Int32)), .unset] [(.ref b1)])) rfl (by rw [hml]; rfl) (Steps.refl _) (argsL := []) (rest := []) (lenOf pd_3 rfl) rfl (by show 2 * 0 + _ ≤ _; exact Nat.le_of_eq rfl) (hb hby at_228) (fun _ _ => ⟨rfl, e5, (by decide : 1 + 1 ≤ _), (by decide : 2 + 2 ≤ _)⟩)
              dsimp only [Pt.U, Pt.locs, Pt.cells, Pt.slots] at X6 l6 y6 z6 st6 hQ6
              subst l6 y6 z6
              obtain ⟨cp, rfl, N6q, sz6, K6, f6_0, f6_1, f6_2⟩ := hQ6
              have N6 := Fr.app N5 N6q
              have ne_b1_cp : b1 ≠ cp := Nat.ne_of_lt (Nat.lt_of_lt_of_le f3_0.lt sz6)
              have ge_cp : n0 ≤ cp := Nat.le_trans Z3 sz6
              have Z6 : n0 ≤ T6.heap.size := Nat.le_trans Z3 K6.1
              refine Done.st (B := T6.setTop (mkF m 231 #[.val (.long x0), .second, .val (.long x1), .second, .val (.int x2), .val (.long lim), .second, .val (.int ((x2 >>> ((3 : Int32) &&& 31)) &&& (3 : Int32))), .val (.long don), .second, .val (.ref b1), .val (.long (own_until lim don)), .second, .val (.long exp), .second, .val (.int (1 : Int32)), .unset] [(.ref cp)])) (fun _ k => st6.trans k) ?_
              refine Done.st (B := T6.setTop (mkF m 233 #[.val (.long x0), .second, .val (.long x1), .second, .val (.int x2), .val (.long lim), .second, .val (.int ((x2 >>> ((3 : Int32) &&& 31)) &&& (3 : Int32))), .val (.long don), .second, .val (.ref b1), .val (.long (own_until lim don)), .second, .val (.long exp), .second, .val (.int (1 : Int32)), .val (.ref cp)] [])) (fun _ k => XS.astore X6.here hx rfl (hb hby at_231) rfl rfl (l' := #[.val (.long x0), .second, .val (.long x1), .second, .val (.int x2), .val (.long lim), .second, .val (.int ((x2 >>> ((3 : Int32) &&& 31)) &&& (3 : Int32))), .val (.long don), .second, .val (.ref b1), .val (.long (own_until lim don)), .second, .val (.long exp), .second, .val (.int (1 : Int32)), .val (.ref cp)]) rfl k) ?_
              refine Done.st (B := T6.setTop (mkF m 235 #[.val (.long x0), .second, .val (.long x1), .second, .val (.int x2), .val (.long lim), .second, .val (.int ((x2 >>> ((3 : Int32) &&& 31)) &&& (3 : Int32))), .val (.long don), .second, .val (.ref b1), .val (.long (own_until lim don)), .second, .val (.long exp), .second, .val (.int (1 : Int32)), .val (.ref cp)] [(.ref cp)])) (fun _ k => XS.aload X6.here hx rfl (hb hby at_233) rfl rfl k) ?_
              refine Done.st (B := T6.setTop (mkF m 237 #[.val (.long x0), .second, .val (.long x1), .second, .val (.int x2), .val (.long lim), .second, .val (.int ((x2 >>> ((3 : Int32) &&& 31)) &&& (3 : Int32))), .val (.long don), .second, .val (.ref b1), .val (.long (own_until lim don)), .second, .val (.long exp), .second, .val (.int (1 : Int32)), .val (.ref cp)] [(.long (own_until lim don)), (.ref cp)])) (fun _ k => XS.lload X6.here hx rfl (hb hby at_235) rfl k) ?_
              refine Done.st (B := T6.setTop (mkF m 238 #[.val (.long x0), .second, .val (.long x1), .second, .val (.int x2), .val (.long lim), .second, .val (.int ((x2 >>> ((3 : Int32) &&& 31)) &&& (3 : Int32))), .val (.long don), .second, .val (.ref b1), .val (.long (own_until lim don)), .second, .val (.long exp), .second, .val (.int (1 : Int32)), .val (.ref cp)] [(.long (1 : Int64)), (.long (own_until lim don)), (.ref cp)])) (fun _ k => XS.lconst X6.here hx rfl (hb hby at_237) k) ?_
              refine Done.st (B := T6.setTop (mkF m 239 #[.val (.long x0), .second, .val (.long x1), .second, .val (.int x2), .val (.long lim), .second, .val (.int ((x2 >>> ((3 : Int32) &&& 31)) &&& (3 : Int32))), .val (.long don), .second, .val (.ref b1), .val (.long (own_until lim don)), .second, .val (.long exp), .second, .val (.int (1 : Int32)), .val (.ref cp)] [(.long ((own_until lim don) - (1 : Int64))), (.ref cp)])) (fun _ k => XS.lsub X6.here hx rfl (hb hby at_238) rfl k) ?_
              obtain ⟨cq7, kq7, q7a, q7b, q7c⟩ := isOf hZ rfl f6_0
              obtain ⟨_, _, ⟨T7, L7, k7, n7⟩, -, X7, ⟨Lc7, hQ7, l7, y7, z7⟩, st7⟩ := X6.virtualBack hx (y := (⟨"com/example/percurso/percurso/completeness/Work", "add", "(J)V"⟩ : MethodName)) (z := (⟨"com/example/percurso/percurso/completeness/Work", "add", "(J)V"⟩ : MethodName)) hown (mvT hZ (hw _ (List.mem_of_getElem? (i := 12) rfl))) (mvT hZ (hw _ (List.mem_of_getElem? (i := 13) rfl))) (notFace_of_selects (args := #[]) (mvT hZ (hw _ (List.mem_of_getElem? (i := 15) rfl)))) (mvT hZ (hw _ (List.mem_of_getElem? (i := 15) rfl))) (mvT hZ (hw _ (List.mem_of_getElem? (i := 14) rfl))) (by decide) (backOf (W := 0) (rm3 l Z a0 hw [] cp ((own_until lim don) - (1 : Int64)) lim don T6.heap n0 Z6 f6_1 f6_2 f6_0 ge_cp) hZ (hw _ (List.mem_of_getElem? (i := 16) rfl)) (hw _ (List.mem_of_getElem? (i := 3) rfl)) (by decide) (by decide)) q7a q7c (g := (mkF m 239 #[.val (.long x0), .second, .val (.long x1), .second, .val (.int x2), .val (.long lim), .second, .val (.int ((x2 >>> ((3 : Int32) &&& 31)) &&& (3 : Int32))), .val (.long don), .second, .val (.ref b1), .val (.long (own_until lim don)), .second, .val (.long exp), .second, .val (.int (1 : Int32)), .val (.ref cp)] [(.long ((own_until lim don) - (1 : Int64))), (.ref cp)])) rfl (by rw [hml]; rfl) (Steps.refl _) (argsL := [(.long ((own_until lim don) - (1 : Int64)))]) (rest := []) (lenOf pd_0 rfl) rfl (by show 2 * 0 + _ ≤ _; exact Nat.le_of_eq rfl) (hb hby at_239) (fun _ _ => ⟨rfl, rfl, (by decide : 2 + 0 ≤ _), (by decide : 4 + 0 ≤ _)⟩)
              dsimp only [Pt.U, Pt.locs, Pt.cells, Pt.slots] at X7 l7 y7 z7 st7 hQ7
              subst l7 y7 z7
              obtain ⟨rfl, N7q, K7, f7_0, f7_1, f7_2⟩ := hQ7
              have N7 := Fr.app N6 N7q
              have Z7 : n0 ≤ T7.heap.size := Nat.le_trans Z6 K7.1
              refine Done.st (B := T7.setTop (mkF m 242 #[.val (.long x0), .second, .val (.long x1), .second, .val (.int x2), .val (.long lim), .second, .val (.int ((x2 >>> ((3 : Int32) &&& 31)) &&& (3 : Int32))), .val (.long don), .second, .val (.ref b1), .val (.long (own_until lim don)), .second, .val (.long exp), .second, .val (.int (1 : Int32)), .val (.ref cp)] [])) (fun _ k => st7.trans k) ?_
              refine Done.st (B := T7.setTop (mkF m 244 #[.val (.long x0), .second, .val (.long x1), .second, .val (.int x2), .val (.long lim), .second, .val (.int ((x2 >>> ((3 : Int32) &&& 31)) &&& (3 : Int32))), .val (.long don), .second, .val (.ref b1), .val (.long (own_until lim don)), .second, .val (.long exp), .second, .val (.int (1 : Int32)), .val (.ref cp)] [(.ref cp)])) (fun _ k => XS.aload X7.here hx rfl (hb hby at_242) rfl rfl k) ?_
              obtain ⟨cq8, kq8, q8a, q8b, q8c⟩ := isOf hZ rfl f7_0
              obtain ⟨_, _, ⟨T8, L8, k8, n8⟩, -, X8, ⟨Lc8, hQ8, l8, y8, z8⟩, st8⟩ := X7.virtualBack hx (y := (⟨"com/example/percurso/percurso/completeness/Work", "spent", "()Z"⟩ : MethodName)) (z := (⟨"com/example/percurso/percurso/completeness/Work", "spent", "()Z"⟩ : MethodName)) hown (mvT hZ (hw _ (List.mem_of_getElem? (i := 25) rfl))) (mvT hZ (hw _ (List.mem_of_getElem? (i := 26) rfl))) (notFace_of_selects (args := #[]) (mvT hZ (hw _ (List.mem_of_getElem? (i := 28) rfl)))) (mvT hZ (hw _ (List.mem_of_getElem? (i := 28) rfl))) (mvT hZ (hw _ (List.mem_of_getElem? (i := 27) rfl))) (by decide) (backOf (W := 0) (rm5 l Z a0 hw [] cp lim (don + ((own_until lim don) - (1 : Int64))) T7.heap n0 Z7 f7_1 f7_2 f7_0 ge_cp) hZ (hw _ (List.mem_of_getElem? (i := 29) rfl)) (hw _ (List.mem_of_getElem? (i := 3) rfl)) (by decide) (by decide)) q8a q8c (g := (mkF m 244 #[.val (.long x0), .second, .val (.long x1), .second, .val (.int x2), .val (.long lim), .second, .val (.int ((x2 >>> ((3 : Int32) &&& 31)) &&& (3 : Int32))), .val (.long don), .second, .val (.ref b1), .val (.long (own_until lim don)), .second, .val (.long exp), .second, .val (.int (1 : Int32)), .val (.ref cp)] [(.ref cp)])) rfl (by rw [hml]; rfl) (Steps.refl _) (argsL := []) (rest := []) (lenOf pd_2 rfl) rfl (by show 2 * 0 + _ ≤ _; exact Nat.le_of_eq rfl) (hb hby at_244) (fun _ _ => ⟨rfl, rfl, (by decide : 2 + 0 ≤ _), (by decide : 4 + 0 ≤ _)⟩)
              dsimp only [Pt.U, Pt.locs, Pt.cells, Pt.slots] at X8 l8 y8 z8 st8 hQ8
              subst l8 y8 z8
              obtain ⟨rfl, N8q, e8⟩ := hQ8
              have N8 := Fr.app N7 N8q
              refine Done.st (B := T8.setTop (mkF m 247 #[.val (.long x0), .second, .val (.long x1), .second, .val (.int x2), .val (.long lim), .second, .val (.int ((x2 >>> ((3 : Int32) &&& 31)) &&& (3 : Int32))), .val (.long don), .second, .val (.ref b1), .val (.long (own_until lim don)), .second, .val (.long exp), .second, .val (.int (1 : Int32)), .val (.ref cp)] [(.int (own_spent (don + ((own_until lim don) - (1 : Int64))) lim))])) (fun _ k => st8.trans k) ?_
              refine Done.st (B := T8.setTop (mkF m 250 #[.val (.long x0), .second, .val (.long x1), .second, .val (.int x2), .val (.long lim), .second, .val (.int ((x2 >>> ((3 : Int32) &&& 31)) &&& (3 : Int32))), .val (.long don), .second, .val (.ref b1), .val (.long (own_until lim don)), .second, .val (.long exp), .second, .val (.int (1 : Int32)), .val (.ref cp)] [])) (fun _ k => XS.ifNo X8.here hx rfl (hb hby at_247) rfl ((if0 _ _).trans (teq (own_c1 hL hD hc223 hc214)).2) k) ?_
              refine Done.st (B := T8.setTop (mkF m 251 #[.val (.long x0), .second, .val (.long x1), .second, .val (.int x2), .val (.long lim), .second, .val (.int ((x2 >>> ((3 : Int32) &&& 31)) &&& (3 : Int32))), .val (.long don), .second, .val (.ref b1), .val (.long (own_until lim don)), .second, .val (.long exp), .second, .val (.int (1 : Int32)), .val (.ref cp)] [(.int (1 : Int32))])) (fun _ k => XS.iconst X8.here hx rfl (hb hby at_250) k) ?_
              refine Done.st (B := T8.setTop (mkF m 255 #[.val (.long x0), .second, .val (.long x1), .second, .val (.int x2), .val (.long lim), .second, .val (.int ((x2 >>> ((3 : Int32) &&& 31)) &&& (3 : Int32))), .val (.long don), .second, .val (.ref b1), .val (.long (own_until lim don)), .second, .val (.long exp), .second, .val (.int (1 : Int32)), .val (.ref cp)] [(.int (1 : Int32))])) (fun _ k => XS.goto X8.here hx rfl (pc0 := 251) (pc' := 255) rfl (hb hby at_251) (by decide) (by decide) k) ?_
              refine Done.st (B := T8.setTop (mkF m 257 #[.val (.long x0), .second, .val (.long x1), .second, .val (.int x2), .val (.long lim), .second, .val (.int ((x2 >>> ((3 : Int32) &&& 31)) &&& (3 : Int32))), .val (.long don), .second, .val (.ref b1), .val (.long (own_until lim don)), .second, .val (.long exp), .second, .val (.int (1 : Int32)), .val (.ref cp)] [])) (fun _ k => XS.istore X8.here hx rfl (hb hby at_255) rfl (l' := #[.val (.long x0), .second, .val (.long x1), .second, .val (.int x2), .val (.long lim), .second, .val (.int ((x2 >>> ((3 : Int32) &&& 31)) &&& (3 : Int32))), .val (.long don), .second, .val (.ref b1), .val (.long (own_until lim don)), .second, .val (.long exp), .second, .val (.int (1 : Int32)), .val (.ref cp)]) rfl k) ?_
              refine Done.st (B := T8.setTop (mkF m 259 #[.val (.long x0), .second, .val (.long x1), .second, .val (.int x2), .val (.long lim), .second, .val (.int ((x2 >>> ((3 : Int32) &&& 31)) &&& (3 : Int32))), .val (.long don), .second, .val (.ref b1), .val (.long (own_until lim don)), .second, .val (.long exp), .second, .val (.int (1 : Int32)), .val (.ref cp)] [(.int (1 : Int32))])) (fun _ k => XS.iload X8.here hx rfl (hb hby at_257) rfl k) ?_
              refine Done.st (B := T8.setTop (mkF m 262 #[.val (.long x0), .second, .val (.long x1), .second, .val (.int x2), .val (.long lim), .second, .val (.int ((x2 >>> ((3 : Int32) &&& 31)) &&& (3 : Int32))), .val (.long don), .second, .val (.ref b1), .val (.long (own_until lim don)), .second, .val (.long exp), .second, .val (.int (1 : Int32)), .val (.ref cp)] [])) (fun _ k => XS.ifNo X8.here hx rfl (hb hby at_259) rfl ((if0 _ _).trans (feq (by decide : ¬ ((1 : Int32) = (0 : Int32)))).1) k) ?_
              refine Done.st (B := T8.setTop (mkF m 264 #[.val (.long x0), .second, .val (.long x1), .second, .val (.int x2), .val (.long lim), .second, .val (.int ((x2 >>> ((3 : Int32) &&& 31)) &&& (3 : Int32))), .val (.long don), .second, .val (.ref b1), .val (.long (own_until lim don)), .second, .val (.long exp), .second, .val (.int (1 : Int32)), .val (.ref cp)] [(.long lim)])) (fun _ k => XS.lload X8.here hx rfl (hb hby at_262) rfl k) ?_
              refine Done.st (B := T8.setTop (mkF m 267 #[.val (.long x0), .second, .val (.long x1), .second, .val (.int x2), .val (.long lim), .second, .val (.int ((x2 >>> ((3 : Int32) &&& 31)) &&& (3 : Int32))), .val (.long don), .second, .val (.ref b1), .val (.long (own_until lim don)), .second, .val (.long exp), .second, .val (.int (1 : Int32)), .val (.ref cp)] [(.long (9223372036854775807 : Int64)), (.long lim)])) (fun _ k => X8.ldc2Long hx hown (mvT hZ (hw _ (List.mem_of_getElem? (i := 0) rfl))) (g := (mkF m 264 #[.val (.long x0), .second, .val (.long x1), .second, .val (.int x2), .val (.long lim), .second, .val (.int ((x2 >>> ((3 : Int32) &&& 31)) &&& (3 : Int32))), .val (.long don), .second, .val (.ref b1), .val (.long (own_until lim don)), .second, .val (.long exp), .second, .val (.int (1 : Int32)), .val (.ref cp)] [(.long lim)])) rfl (hb hby at_264) _ k) ?_
              refine Done.st (B := T8.setTop (mkF m 268 #[.val (.long x0), .second, .val (.long x1), .second, .val (.int x2), .val (.long lim), .second, .val (.int ((x2 >>> ((3 : Int32) &&& 31)) &&& (3 : Int32))), .val (.long don), .second, .val (.ref b1), .val (.long (own_until lim don)), .second, .val (.long exp), .second, .val (.int (1 : Int32)), .val (.ref cp)] [(.int (lcmpW lim (9223372036854775807 : Int64)))])) (fun _ k => XS.lcmp X8.here hx rfl (hb hby at_267) rfl k) ?_
              by_cases hc268 : lim < (9223372036854775807 : Int64)
              · refine Done.st (B := T8.setTop (mkF m 271 #[.val (.long x0), .second, .val (.long x1), .second, .val (.int x2), .val (.long lim), .second, .val (.int ((x2 >>> ((3 : Int32) &&& 31)) &&& (3 : Int32))), .val (.long don), .second, .val (.ref b1), .val (.long (own_until lim don)), .second, .val (.long exp), .second, .val (.int (1 : Int32)), .val (.ref cp)] [])) (fun _ k => XS.ifNo X8.here hx rfl (hb hby at_268) rfl ((if0 _ _).trans (tlt ((lw_lt _ _).mpr hc268)).2.1) k) ?_
                refine Done.st (B := T8.setTop (mkF m 273 #[.val (.long x0), .second, .val (.long x1), .second, .val (.int x2), .val (.long lim), .second, .val (.int ((x2 >>> ((3 : Int32) &&& 31)) &&& (3 : Int32))), .val (.long don), .second, .val (.ref b1), .val (.long (own_until lim don)), .second, .val (.long exp), .second, .val (.int (1 : Int32)), .val (.ref cp)] [(.ref cp)])) (fun _ k => XS.aload X8.here hx rfl (hb hby at_271) rfl rfl k) ?_
                refine Done.st (B := T8.setTop (mkF m 274 #[.val (.long x0), .second, .val (.long x1), .second, .val (.int x2), .val (.long lim), .second, .val (.int ((x2 >>> ((3 : Int32) &&& 31)) &&& (3 : Int32))), .val (.long don), .second, .val (.ref b1), .val (.long (own_until lim don)), .second, .val (.long exp), .second, .val (.int (1 : Int32)), .val (.ref cp)] [(.long (1 : Int64)), (.ref cp)])) (fun _ k => XS.lconst X8.here hx rfl (hb hby at_273) k) ?_
                obtain ⟨cq9, kq9, q9a, q9b, q9c⟩ := isOf hZ e8 f7_0
                obtain ⟨_, _, ⟨T9, L9, k9, n9⟩, -, X9, ⟨Lc9, hQ9, l9, y9, z9⟩, st9⟩ := X8.virtualBack hx (y := (⟨"com/example/percurso/percurso/completeness/Work", "add", "(J)V"⟩ : MethodName)) (z := (⟨"com/example/percurso/percurso/completeness/Work", "add", "(J)V"⟩ : MethodName)) hown (mvT hZ (hw _ (List.mem_of_getElem? (i := 12) rfl))) (mvT hZ (hw _ (List.mem_of_getElem? (i := 13) rfl))) (notFace_of_selects (args := #[]) (mvT hZ (hw _ (List.mem_of_getElem? (i := 15) rfl)))) (mvT hZ (hw _ (List.mem_of_getElem? (i := 15) rfl))) (mvT hZ (hw _ (List.mem_of_getElem? (i := 14) rfl))) (by decide) (backOf (W := 0) (rm3 l Z a0 hw [] cp (1 : Int64) lim (don + ((own_until lim don) - (1 : Int64))) T7.heap n0 Z7 f7_1 f7_2 f7_0 ge_cp) hZ (hw _ (List.mem_of_getElem? (i := 16) rfl)) (hw _ (List.mem_of_getElem? (i := 3) rfl)) (by decide) (by decide)) q9a q9c (g := (mkF m 274 #[.val (.long x0), .second, .val (.long x1), .second, .val (.int x2), .val (.long lim), .second, .val (.int ((x2 >>> ((3 : Int32) &&& 31)) &&& (3 : Int32))), .val (.long don), .second, .val (.ref b1), .val (.long (own_until lim don)), .second, .val (.long exp), .second, .val (.int (1 : Int32)), .val (.ref cp)] [(.long (1 : Int64)), (.ref cp)])) rfl (by rw [hml]; rfl) (Steps.refl _) (argsL := [(.long (1 : Int64))]) (rest := []) (lenOf pd_0 rfl) rfl (by show 2 * 0 + _ ≤ _; exact Nat.le_of_eq rfl) (hb hby at_274) (fun _ _ => ⟨rfl, e8, (by decide : 2 + 0 ≤ _), (by decide : 4 + 0 ≤ _)⟩)
                dsimp only [Pt.U, Pt.locs, Pt.cells, Pt.slots] at X9 l9 y9 z9 st9 hQ9
                subst l9 y9 z9
                obtain ⟨rfl, N9q, K9, f9_0, f9_1, f9_2⟩ := hQ9
                have N9 := Fr.app N8 N9q
                have Z9 : n0 ≤ T9.heap.size := Nat.le_trans Z7 K9.1
                refine Done.st (B := T9.setTop (mkF m 277 #[.val (.long x0), .second, .val (.long x1), .second, .val (.int x2), .val (.long lim), .second, .val (.int ((x2 >>> ((3 : Int32) &&& 31)) &&& (3 : Int32))), .val (.long don), .second, .val (.ref b1), .val (.long (own_until lim don)), .second, .val (.long exp), .second, .val (.int (1 : Int32)), .val (.ref cp)] [])) (fun _ k => st9.trans k) ?_
                refine Done.st (B := T9.setTop (mkF m 279 #[.val (.long x0), .second, .val (.long x1), .second, .val (.int x2), .val (.long lim), .second, .val (.int ((x2 >>> ((3 : Int32) &&& 31)) &&& (3 : Int32))), .val (.long don), .second, .val (.ref b1), .val (.long (own_until lim don)), .second, .val (.long exp), .second, .val (.int (1 : Int32)), .val (.ref cp)] [(.ref cp)])) (fun _ k => XS.aload X9.here hx rfl (hb hby at_277) rfl rfl k) ?_
                obtain ⟨cq10, kq10, q10a, q10b, q10c⟩ := isOf hZ rfl f9_0
                obtain ⟨_, _, ⟨T10, L10, k10, n10⟩, -, X10, ⟨Lc10, hQ10, l10, y10, z10⟩, st10⟩ := X9.virtualBack hx (y := (⟨"com/example/percurso/percurso/completeness/Work", "spent", "()Z"⟩ : MethodName)) (z := (⟨"com/example/percurso/percurso/completeness/Work", "spent", "()Z"⟩ : MethodName)) hown (mvT hZ (hw _ (List.mem_of_getElem? (i := 25) rfl))) (mvT hZ (hw _ (List.mem_of_getElem? (i := 26) rfl))) (notFace_of_selects (args := #[]) (mvT hZ (hw _ (List.mem_of_getElem? (i := 28) rfl)))) (mvT hZ (hw _ (List.mem_of_getElem? (i := 28) rfl))) (mvT hZ (hw _ (List.mem_of_getElem? (i := 27) rfl))) (by decide) (backOf (W := 0) (rm5 l Z a0 hw [] cp lim ((don + ((own_until lim don) - (1 : Int64))) + (1 : Int64)) T9.heap n0 Z9 f9_1 f9_2 f9_0 ge_cp) hZ (hw _ (List.mem_of_getElem? (i := 29) rfl)) (hw _ (List.mem_of_getElem? (i := 3) rfl)) (by decide) (by decide)) q10a q10c (g := (mkF m 279 #[.val (.long x0), .second, .val (.long x1), .second, .val (.int x2), .val (.long lim), .second, .val (.int ((x2 >>> ((3 : Int32) &&& 31)) &&& (3 : Int32))), .val (.long don), .second, .val (.ref b1), .val (.long (own_until lim don)), .second, .val (.long exp), .second, .val (.int (1 : Int32)), .val (.ref cp)] [(.ref cp)])) rfl (by rw [hml]; rfl) (Steps.refl _) (argsL := []) (rest := []) (lenOf pd_2 rfl) rfl (by show 2 * 0 + _ ≤ _; exact Nat.le_of_eq rfl) (hb hby at_279) (fun _ _ => ⟨rfl, rfl, (by decide : 2 + 0 ≤ _), (by decide : 4 + 0 ≤ _)⟩)
                dsimp only [Pt.U, Pt.locs, Pt.cells, Pt.slots] at X10 l10 y10 z10 st10 hQ10
                subst l10 y10 z10
                obtain ⟨rfl, N10q, e10⟩ := hQ10
                have N10 := Fr.app N9 N10q
                refine Done.st (B := T10.setTop (mkF m 282 #[.val (.long x0), .second, .val (.long x1), .second, .val (.int x2), .val (.long lim), .second, .val (.int ((x2 >>> ((3 : Int32) &&& 31)) &&& (3 : Int32))), .val (.long don), .second, .val (.ref b1), .val (.long (own_until lim don)), .second, .val (.long exp), .second, .val (.int (1 : Int32)), .val (.ref cp)] [(.int (own_spent ((don + ((own_until lim don) - (1 : Int64))) + (1 : Int64)) lim))])) (fun _ k => st10.trans k) ?_
                refine Done.st (B := T10.setTop (mkF m 284 #[.val (.long x0), .second, .val (.long x1), .second, .val (.int x2), .val (.long lim), .second, .val (.int ((x2 >>> ((3 : Int32) &&& 31)) &&& (3 : Int32))), .val (.long don), .second, .val (.ref b1), .val (.long (own_until lim don)), .second, .val (.long exp), .second, .val (.int (own_spent ((don + ((own_until lim don) - (1 : Int64))) + (1 : Int64)) lim)), .val (.ref cp)] [])) (fun _ k => XS.istore X10.here hx rfl (hb hby at_282) rfl (l' := #[.val (.long x0), .second, .val (.long x1), .second, .val (.int x2), .val (.long lim), .second, .val (.int ((x2 >>> ((3 : Int32) &&& 31)) &&& (3 : Int32))), .val (.long don), .second, .val (.ref b1), .val (.long (own_until lim don)), .second, .val (.long exp), .second, .val (.int (own_spent ((don + ((own_until lim don) - (1 : Int64))) + (1 : Int64)) lim)), .val (.ref cp)]) rfl k) ?_
                refine Done.st (B := T10.setTop (mkF m 286 #[.val (.long x0), .second, .val (.long x1), .second, .val (.int x2), .val (.long lim), .second, .val (.int ((x2 >>> ((3 : Int32) &&& 31)) &&& (3 : Int32))), .val (.long don), .second, .val (.ref b1), .val (.long (own_until lim don)), .second, .val (.long exp), .second, .val (.int (own_spent ((don + ((own_until lim don) - (1 : Int64))) + (1 : Int64)) lim)), .val (.ref cp)] [(.int (own_spent ((don + ((own_until lim don) - (1 : Int64))) + (1 : Int64)) lim))])) (fun _ k => XS.iload X10.here hx rfl (hb hby at_284) rfl k) ?_
                obtain ⟨fs, hr, hrun, hended, hW, hsame⟩ := X10.leave (v := some (.int (nar .boolean (own_spent ((don + ((own_until lim don) - (1 : Int64))) + (1 : Int64)) lim)))) (hlocks := hlk) (fun h => by rw [Bd.returns] at h; cases h)
                refine Done.fin (retN X10 hx (t := .boolean) Bd.returns (by simp) (hb hby at_286) hr) hrun hended ⟨_, _, rfl, ?_, ⟨_, rfl⟩, hW, hsame.mono (by decide) (by decide)⟩
                show Qrm0 Z x0 x1 x2 h0 n0 _ T10.heap _
                rw [e10]
                exact ⟨by rw [own_c2 hL hD hc223 hc214 hc268]; rfl, N10⟩
              · refine Done.st (B := T8.setTop (mkF m 284 #[.val (.long x0), .second, .val (.long x1), .second, .val (.int x2), .val (.long lim), .second, .val (.int ((x2 >>> ((3 : Int32) &&& 31)) &&& (3 : Int32))), .val (.long don), .second, .val (.ref b1), .val (.long (own_until lim don)), .second, .val (.long exp), .second, .val (.int (1 : Int32)), .val (.ref cp)] [])) (fun _ k => XS.ifYes X8.here hx rfl (pc0 := 268) (pc' := 284) rfl (hb hby at_268) rfl ((if0 _ _).trans (flt (fun z => hc268 ((lw_lt _ _).mp z))).2.1) (by decide) (by decide) k) ?_
                refine Done.st (B := T8.setTop (mkF m 286 #[.val (.long x0), .second, .val (.long x1), .second, .val (.int x2), .val (.long lim), .second, .val (.int ((x2 >>> ((3 : Int32) &&& 31)) &&& (3 : Int32))), .val (.long don), .second, .val (.ref b1), .val (.long (own_until lim don)), .second, .val (.long exp), .second, .val (.int (1 : Int32)), .val (.ref cp)] [(.int (1 : Int32))])) (fun _ k => XS.iload X8.here hx rfl (hb hby at_284) rfl k) ?_
                obtain ⟨fs, hr, hrun, hended, hW, hsame⟩ := X8.leave (v := some (.int (1 : Int32))) (hlocks := hlk) (fun h => by rw [Bd.returns] at h; cases h)
                refine Done.fin (retN X8 hx (t := .boolean) Bd.returns (by simp) (hb hby at_286) hr) hrun hended ⟨_, _, rfl, ?_, ⟨_, rfl⟩, hW, hsame.mono (by decide) (by decide)⟩
                show Qrm0 Z x0 x1 x2 h0 n0 _ T8.heap _
                rw [e8]
                exact ⟨rfl, N8⟩
            · refine Done.st (B := T5.setTop (mkF m 284 #[.val (.long x0), .second, .val (.long x1), .second, .val (.int x2), .val (.long lim), .second, .val (.int ((x2 >>> ((3 : Int32) &&& 31)) &&& (3 : Int32))), .val (.long don), .second, .val (.ref b1), .val (.long (own_until lim don)), .second, .val (.long exp), .second, .val (.int (1 : Int32)), .unset] [])) (fun _ k => XS.ifYes X5.here hx rfl (pc0 := 223) (pc' := 284) rfl (hb hby at_223) rfl ((if0 _ _).trans (flt (fun z => hc223 ((lw_lt _ _).mp z))).2.1) (by decide) (by decide) k) ?_
              refine Done.st (B := T5.setTop (mkF m 286 #[.val (.long x0), .second, .val (.long x1), .second, .val (.int x2), .val (.long lim), .second, .val (.int ((x2 >>> ((3 : Int32) &&& 31)) &&& (3 : Int32))), .val (.long don), .second, .val (.ref b1), .val (.long (own_until lim don)), .second, .val (.long exp), .second, .val (.int (1 : Int32)), .unset] [(.int (1 : Int32))])) (fun _ k => XS.iload X5.here hx rfl (hb hby at_284) rfl k) ?_
              obtain ⟨fs, hr, hrun, hended, hW, hsame⟩ := X5.leave (v := some (.int (1 : Int32))) (hlocks := hlk) (fun h => by rw [Bd.returns] at h; cases h)
              refine Done.fin (retN X5 hx (t := .boolean) Bd.returns (by simp) (hb hby at_286) hr) hrun hended ⟨_, _, rfl, ?_, ⟨_, rfl⟩, hW, hsame.mono (by decide) (by decide)⟩
              show Qrm0 Z x0 x1 x2 h0 n0 _ T5.heap _
              rw [e5]
              exact ⟨rfl, N5⟩
          · refine Done.st (B := T5.setTop (mkF m 284 #[.val (.long x0), .second, .val (.long x1), .second, .val (.int x2), .val (.long lim), .second, .val (.int ((x2 >>> ((3 : Int32) &&& 31)) &&& (3 : Int32))), .val (.long don), .second, .val (.ref b1), .val (.long (own_until lim don)), .second, .val (.long exp), .second, .val (.int (1 : Int32)), .unset] [])) (fun _ k => XS.ifYes X5.here hx rfl (pc0 := 214) (pc' := 284) rfl (hb hby at_214) rfl ((if0 _ _).trans (flt (fun z => hc214 ((lw_gt _ _).mp z))).2.2.2) (by decide) (by decide) k) ?_
            refine Done.st (B := T5.setTop (mkF m 286 #[.val (.long x0), .second, .val (.long x1), .second, .val (.int x2), .val (.long lim), .second, .val (.int ((x2 >>> ((3 : Int32) &&& 31)) &&& (3 : Int32))), .val (.long don), .second, .val (.ref b1), .val (.long (own_until lim don)), .second, .val (.long exp), .second, .val (.int (1 : Int32)), .unset] [(.int (1 : Int32))])) (fun _ k => XS.iload X5.here hx rfl (hb hby at_284) rfl k) ?_
            obtain ⟨fs, hr, hrun, hended, hW, hsame⟩ := X5.leave (v := some (.int (1 : Int32))) (hlocks := hlk) (fun h => by rw [Bd.returns] at h; cases h)
            refine Done.fin (retN X5 hx (t := .boolean) Bd.returns (by simp) (hb hby at_286) hr) hrun hended ⟨_, _, rfl, ?_, ⟨_, rfl⟩, hW, hsame.mono (by decide) (by decide)⟩
            show Qrm0 Z x0 x1 x2 h0 n0 _ T5.heap _
            rw [e5]
            exact ⟨rfl, N5⟩
        · refine Done.st (B := T4.setTop (mkF m 189 #[.val (.long x0), .second, .val (.long x1), .second, .val (.int x2), .val (.long lim), .second, .val (.int ((x2 >>> ((3 : Int32) &&& 31)) &&& (3 : Int32))), .val (.long don), .second, .val (.ref b1), .val (.long (own_until lim don)), .second, .val (.long exp), .second, .val (.int (1 : Int32)), .unset] [])) (fun _ k => XS.ifYes X4.here hx rfl (pc0 := 182) (pc' := 189) rfl (hb hby at_182) rfl ((if0 _ _).trans (feq (fun z => hc182 ((lw_eq _ _).mp z))).2) (by decide) (by decide) k) ?_
          refine Done.st (B := T4.setTop (mkF m 190 #[.val (.long x0), .second, .val (.long x1), .second, .val (.int x2), .val (.long lim), .second, .val (.int ((x2 >>> ((3 : Int32) &&& 31)) &&& (3 : Int32))), .val (.long don), .second, .val (.ref b1), .val (.long (own_until lim don)), .second, .val (.long exp), .second, .val (.int (1 : Int32)), .unset] [(.int (0 : Int32))])) (fun _ k => XS.iconst X4.here hx rfl (hb hby at_189) k) ?_
          refine Done.st (B := T4.setTop (mkF m 192 #[.val (.long x0), .second, .val (.long x1), .second, .val (.int x2), .val (.long lim), .second, .val (.int ((x2 >>> ((3 : Int32) &&& 31)) &&& (3 : Int32))), .val (.long don), .second, .val (.ref b1), .val (.long (own_until lim don)), .second, .val (.long exp), .second, .val (.int (1 : Int32)), .unset] [(.ref b1), (.int (0 : Int32))])) (fun _ k => XS.aload X4.here hx rfl (hb hby at_190) rfl rfl k) ?_
          obtain ⟨cq15, kq15, q15a, q15b, q15c⟩ := isOf hZ e4 f3_0
          obtain ⟨_, _, ⟨T15, L15, k15, n15⟩, -, X15, ⟨Lc15, hQ15, l15, y15, z15⟩, st15⟩ := X4.virtualBack hx (y := (⟨"com/example/percurso/percurso/completeness/Work", "spent", "()Z"⟩ : MethodName)) (z := (⟨"com/example/percurso/percurso/completeness/Work", "spent", "()Z"⟩ : MethodName)) hown (mvT hZ (hw _ (List.mem_of_getElem? (i := 25) rfl))) (mvT hZ (hw _ (List.mem_of_getElem? (i := 26) rfl))) (notFace_of_selects (args := #[]) (mvT hZ (hw _ (List.mem_of_getElem? (i := 28) rfl)))) (mvT hZ (hw _ (List.mem_of_getElem? (i := 28) rfl))) (mvT hZ (hw _ (List.mem_of_getElem? (i := 27) rfl))) (by decide) (backOf (W := 1) (rm5 l Z a0 hw [] b1 lim don T3.heap n0 Z3 f3_1 f3_2 f3_0 ge_b1) hZ (hw _ (List.mem_of_getElem? (i := 29) rfl)) (hw _ (List.mem_of_getElem? (i := 3) rfl)) (by decide) (by decide)) q15a q15c (g := (mkF m 192 #[.val (.long x0), .second, .val (.long x1), .second, .val (.int x2), .val (.long lim), .second, .val (.int ((x2 >>> ((3 : Int32) &&& 31)) &&& (3 : Int32))), .val (.long don), .second, .val (.ref b1), .val (.long (own_until lim don)), .second, .val (.long exp), .second, .val (.int (1 : Int32)), .unset] [(.ref b1), (.int (0 : Int32))])) rfl (by rw [hml]; rfl) (Steps.refl _) (argsL := []) (rest := [(.int (0 : Int32))]) (lenOf pd_2 rfl) rfl (by show 2 * 0 + _ ≤ _; exact Nat.le_of_eq rfl) (hb hby at_192) (fun _ _ => ⟨rfl, e4, (by decide : 1 + 0 ≤ _), (by decide : 2 + 0 ≤ _)⟩)
          dsimp only [Pt.U, Pt.locs, Pt.cells, Pt.slots] at X15 l15 y15 z15 st15 hQ15
          subst l15 y15 z15
          obtain ⟨rfl, N15q, e15⟩ := hQ15
          have N15 := Fr.app N4 N15q
          refine Done.st (B := T15.setTop (mkF m 195 #[.val (.long x0), .second, .val (.long x1), .second, .val (.int x2), .val (.long lim), .second, .val (.int ((x2 >>> ((3 : Int32) &&& 31)) &&& (3 : Int32))), .val (.long don), .second, .val (.ref b1), .val (.long (own_until lim don)), .second, .val (.long exp), .second, .val (.int (1 : Int32)), .unset] [(.int (own_spent don lim)), (.int (0 : Int32))])) (fun _ k => st15.trans k) ?_
          refine Done.st (B := T15.setTop (mkF m 198 #[.val (.long x0), .second, .val (.long x1), .second, .val (.int x2), .val (.long lim), .second, .val (.int ((x2 >>> ((3 : Int32) &&& 31)) &&& (3 : Int32))), .val (.long don), .second, .val (.ref b1), .val (.long (own_until lim don)), .second, .val (.long exp), .second, .val (.int (1 : Int32)), .unset] [])) (fun _ k => XS.icmpNo X15.here hx rfl (hb hby at_195) rfl (teq (own_sp0 hL hD hc182)).2 k) ?_
          refine Done.st (B := T15.setTop (mkF m 199 #[.val (.long x0), .second, .val (.long x1), .second, .val (.int x2), .val (.long lim), .second, .val (.int ((x2 >>> ((3 : Int32) &&& 31)) &&& (3 : Int32))), .val (.long don), .second, .val (.ref b1), .val (.long (own_until lim don)), .second, .val (.long exp), .second, .val (.int (1 : Int32)), .unset] [(.int (1 : Int32))])) (fun _ k => XS.iconst X15.here hx rfl (hb hby at_198) k) ?_
          refine Done.st (B := T15.setTop (mkF m 203 #[.val (.long x0), .second, .val (.long x1), .second, .val (.int x2), .val (.long lim), .second, .val (.int ((x2 >>> ((3 : Int32) &&& 31)) &&& (3 : Int32))), .val (.long don), .second, .val (.ref b1), .val (.long (own_until lim don)), .second, .val (.long exp), .second, .val (.int (1 : Int32)), .unset] [(.int (1 : Int32))])) (fun _ k => XS.goto X15.here hx rfl (pc0 := 199) (pc' := 203) rfl (hb hby at_199) (by decide) (by decide) k) ?_
          refine Done.st (B := T15.setTop (mkF m 205 #[.val (.long x0), .second, .val (.long x1), .second, .val (.int x2), .val (.long lim), .second, .val (.int ((x2 >>> ((3 : Int32) &&& 31)) &&& (3 : Int32))), .val (.long don), .second, .val (.ref b1), .val (.long (own_until lim don)), .second, .val (.long exp), .second, .val (.int (1 : Int32)), .unset] [])) (fun _ k => XS.istore X15.here hx rfl (hb hby at_203) rfl (l' := #[.val (.long x0), .second, .val (.long x1), .second, .val (.int x2), .val (.long lim), .second, .val (.int ((x2 >>> ((3 : Int32) &&& 31)) &&& (3 : Int32))), .val (.long don), .second, .val (.ref b1), .val (.long (own_until lim don)), .second, .val (.long exp), .second, .val (.int (1 : Int32)), .unset]) rfl k) ?_
          refine Done.st (B := T15.setTop (mkF m 207 #[.val (.long x0), .second, .val (.long x1), .second, .val (.int x2), .val (.long lim), .second, .val (.int ((x2 >>> ((3 : Int32) &&& 31)) &&& (3 : Int32))), .val (.long don), .second, .val (.ref b1), .val (.long (own_until lim don)), .second, .val (.long exp), .second, .val (.int (1 : Int32)), .unset] [(.int (1 : Int32))])) (fun _ k => XS.iload X15.here hx rfl (hb hby at_205) rfl k) ?_
          refine Done.st (B := T15.setTop (mkF m 210 #[.val (.long x0), .second, .val (.long x1), .second, .val (.int x2), .val (.long lim), .second, .val (.int ((x2 >>> ((3 : Int32) &&& 31)) &&& (3 : Int32))), .val (.long don), .second, .val (.ref b1), .val (.long (own_until lim don)), .second, .val (.long exp), .second, .val (.int (1 : Int32)), .unset] [])) (fun _ k => XS.ifNo X15.here hx rfl (hb hby at_207) rfl ((if0 _ _).trans (feq (by decide : ¬ ((1 : Int32) = (0 : Int32)))).1) k) ?_
          refine Done.st (B := T15.setTop (mkF m 212 #[.val (.long x0), .second, .val (.long x1), .second, .val (.int x2), .val (.long lim), .second, .val (.int ((x2 >>> ((3 : Int32) &&& 31)) &&& (3 : Int32))), .val (.long don), .second, .val (.ref b1), .val (.long (own_until lim don)), .second, .val (.long exp), .second, .val (.int (1 : Int32)), .unset] [(.long (own_until lim don))])) (fun _ k => XS.lload X15.here hx rfl (hb hby at_210) rfl k) ?_
          refine Done.st (B := T15.setTop (mkF m 213 #[.val (.long x0), .second, .val (.long x1), .second, .val (.int x2), .val (.long lim), .second, .val (.int ((x2 >>> ((3 : Int32) &&& 31)) &&& (3 : Int32))), .val (.long don), .second, .val (.ref b1), .val (.long (own_until lim don)), .second, .val (.long exp), .second, .val (.int (1 : Int32)), .unset] [(.long (0 : Int64)), (.long (own_until lim don))])) (fun _ k => XS.lconst X15.here hx rfl (hb hby at_212) k) ?_
          refine Done.st (B := T15.setTop (mkF m 214 #[.val (.long x0), .second, .val (.long x1), .second, .val (.int x2), .val (.long lim), .second, .val (.int ((x2 >>> ((3 : Int32) &&& 31)) &&& (3 : Int32))), .val (.long don), .second, .val (.ref b1), .val (.long (own_until lim don)), .second, .val (.long exp), .second, .val (.int (1 : Int32)), .unset] [(.int (lcmpW (own_until lim don) (0 : Int64)))])) (fun _ k => XS.lcmp X15.here hx rfl (hb hby at_213) rfl k) ?_
          by_cases hc214 : (0 : Int64) < (own_until lim don)
          · refine Done.st (B := T15.setTop (mkF m 217 #[.val (.long x0), .second, .val (.long x1), .second, .val (.int x2), .val (.long lim), .second, .val (.int ((x2 >>> ((3 : Int32) &&& 31)) &&& (3 : Int32))), .val (.long don), .second, .val (.ref b1), .val (.long (own_until lim don)), .second, .val (.long exp), .second, .val (.int (1 : Int32)), .unset] [])) (fun _ k => XS.ifNo X15.here hx rfl (hb hby at_214) rfl ((if0 _ _).trans (tlt ((lw_gt _ _).mpr hc214)).2.2.2) k) ?_
            refine Done.st (B := T15.setTop (mkF m 219 #[.val (.long x0), .second, .val (.long x1), .second, .val (.int x2), .val (.long lim), .second, .val (.int ((x2 >>> ((3 : Int32) &&& 31)) &&& (3 : Int32))), .val (.long don), .second, .val (.ref b1), .val (.long (own_until lim don)), .second, .val (.long exp), .second, .val (.int (1 : Int32)), .unset] [(.long (own_until lim don))])) (fun _ k => XS.lload X15.here hx rfl (hb hby at_217) rfl k) ?_
            refine Done.st (B := T15.setTop (mkF m 222 #[.val (.long x0), .second, .val (.long x1), .second, .val (.int x2), .val (.long lim), .second, .val (.int ((x2 >>> ((3 : Int32) &&& 31)) &&& (3 : Int32))), .val (.long don), .second, .val (.ref b1), .val (.long (own_until lim don)), .second, .val (.long exp), .second, .val (.int (1 : Int32)), .unset] [(.long (9223372036854775807 : Int64)), (.long (own_until lim don))])) (fun _ k => X15.ldc2Long hx hown (mvT hZ (hw _ (List.mem_of_getElem? (i := 0) rfl))) (g := (mkF m 219 #[.val (.long x0), .second, .val (.long x1), .second, .val (.int x2), .val (.long lim), .second, .val (.int ((x2 >>> ((3 : Int32) &&& 31)) &&& (3 : Int32))), .val (.long don), .second, .val (.ref b1), .val (.long (own_until lim don)), .second, .val (.long exp), .second, .val (.int (1 : Int32)), .unset] [(.long (own_until lim don))])) rfl (hb hby at_219) _ k) ?_
            refine Done.st (B := T15.setTop (mkF m 223 #[.val (.long x0), .second, .val (.long x1), .second, .val (.int x2), .val (.long lim), .second, .val (.int ((x2 >>> ((3 : Int32) &&& 31)) &&& (3 : Int32))), .val (.long don), .second, .val (.ref b1), .val (.long (own_until lim don)), .second, .val (.long exp), .second, .val (.int (1 : Int32)), .unset] [(.int (lcmpW (own_until lim don) (9223372036854775807 : Int64)))])) (fun _ k => XS.lcmp X15.here hx rfl (hb hby at_222) rfl k) ?_
            by_cases hc223 : (own_until lim don) < (9223372036854775807 : Int64)
            · refine Done.st (B := T15.setTop (mkF m 226 #[.val (.long x0), .second, .val (.long x1), .second, .val (.int x2), .val (.long lim), .second, .val (.int ((x2 >>> ((3 : Int32) &&& 31)) &&& (3 : Int32))), .val (.long don), .second, .val (.ref b1), .val (.long (own_until lim don)), .second, .val (.long exp), .second, .val (.int (1 : Int32)), .unset] [])) (fun _ k => XS.ifNo X15.here hx rfl (hb hby at_223) rfl ((if0 _ _).trans (tlt ((lw_lt _ _).mpr hc223)).2.1) k) ?_
              refine Done.st (B := T15.setTop (mkF m 228 #[.val (.long x0), .second, .val (.long x1), .second, .val (.int x2), .val (.long lim), .second, .val (.int ((x2 >>> ((3 : Int32) &&& 31)) &&& (3 : Int32))), .val (.long don), .second, .val (.ref b1), .val (.long (own_until lim don)), .second, .val (.long exp), .second, .val (.int (1 : Int32)), .unset] [(.ref b1)])) (fun _ k => XS.aload X15.here hx rfl (hb hby at_226) rfl rfl k) ?_
              obtain ⟨cq16, kq16, q16a, q16b, q16c⟩ := isOf hZ e15 f3_0
              obtain ⟨_, _, ⟨T16, L16, k16, n16⟩, -, X16, ⟨Lc16, hQ16, l16, y16, z16⟩, st16⟩ := X15.virtualBack hx (y := (⟨"com/example/percurso/percurso/completeness/Work", "copy", "()Lcom/example/percurso/percurso/completeness/Work;"⟩ : MethodName)) (z := (⟨"com/example/percurso/percurso/completeness/Work", "copy", "()Lcom/example/percurso/percurso/completeness/Work;"⟩ : MethodName)) hown (mvT hZ (hw _ (List.mem_of_getElem? (i := 30) rfl))) (mvT hZ (hw _ (List.mem_of_getElem? (i := 31) rfl))) (notFace_of_selects (args := #[]) (mvT hZ (hw _ (List.mem_of_getElem? (i := 33) rfl)))) (mvT hZ (hw _ (List.mem_of_getElem? (i := 33) rfl))) (mvT hZ (hw _ (List.mem_of_getElem? (i := 32) rfl))) (by decide) (backOf (W := 0) (rm6 l Z a0 hw [] b1 lim don T3.heap n0 Z3 f3_1 f3_2 f3_0 ge_b1) hZ (hw _ (List.mem_of_getElem? (i := 34) rfl)) (hw _ (List.mem_of_getElem? (i := 3) rfl)) (by decide) (by decide)) q16a q16c (g := (mkF m 228 #[.val (.long x0), .second, .val (.long x1), .second, .val (.int x2), .val (.long lim), .second, .val (.int ((x2 >>> ((3 : Int32) &&& 31)) &&& (3 : Int32))), .val (.long don), .second, .val (.ref b1), .val (.long (own_until lim don)), .second, .val (.long exp), .second, .val (.int (1 : Int32)), .unset] [(.ref b1)])) rfl (by rw [hml]; rfl) (Steps.refl _) (argsL := []) (rest := []) (lenOf pd_3 rfl) rfl (by show 2 * 0 + _ ≤ _; exact Nat.le_of_eq rfl) (hb hby at_228) (fun _ _ => ⟨rfl, e15, (by decide : 1 + 1 ≤ _), (by decide : 2 + 2 ≤ _)⟩)
              dsimp only [Pt.U, Pt.locs, Pt.cells, Pt.slots] at X16 l16 y16 z16 st16 hQ16
              subst l16 y16 z16
              obtain ⟨cp, rfl, N16q, sz16, K16, f16_0, f16_1, f16_2⟩ := hQ16
              have N16 := Fr.app N15 N16q
              have ne_b1_cp : b1 ≠ cp := Nat.ne_of_lt (Nat.lt_of_lt_of_le f3_0.lt sz16)
              have ge_cp : n0 ≤ cp := Nat.le_trans Z3 sz16
              have Z16 : n0 ≤ T16.heap.size := Nat.le_trans Z3 K16.1
              refine Done.st (B := T16.setTop (mkF m 231 #[.val (.long x0), .second, .val (.long x1), .second, .val (.int x2), .val (.long lim), .second, .val (.int ((x2 >>> ((3 : Int32) &&& 31)) &&& (3 : Int32))), .val (.long don), .second, .val (.ref b1), .val (.long (own_until lim don)), .second, .val (.long exp), .second, .val (.int (1 : Int32)), .unset] [(.ref cp)])) (fun _ k => st16.trans k) ?_
              refine Done.st (B := T16.setTop (mkF m 233 #[.val (.long x0), .second, .val (.long x1), .second, .val (.int x2), .val (.long lim), .second, .val (.int ((x2 >>> ((3 : Int32) &&& 31)) &&& (3 : Int32))), .val (.long don), .second, .val (.ref b1), .val (.long (own_until lim don)), .second, .val (.long exp), .second, .val (.int (1 : Int32)), .val (.ref cp)] [])) (fun _ k => XS.astore X16.here hx rfl (hb hby at_231) rfl rfl (l' := #[.val (.long x0), .second, .val (.long x1), .second, .val (.int x2), .val (.long lim), .second, .val (.int ((x2 >>> ((3 : Int32) &&& 31)) &&& (3 : Int32))), .val (.long don), .second, .val (.ref b1), .val (.long (own_until lim don)), .second, .val (.long exp), .second, .val (.int (1 : Int32)), .val (.ref cp)]) rfl k) ?_
              refine Done.st (B := T16.setTop (mkF m 235 #[.val (.long x0), .second, .val (.long x1), .second, .val (.int x2), .val (.long lim), .second, .val (.int ((x2 >>> ((3 : Int32) &&& 31)) &&& (3 : Int32))), .val (.long don), .second, .val (.ref b1), .val (.long (own_until lim don)), .second, .val (.long exp), .second, .val (.int (1 : Int32)), .val (.ref cp)] [(.ref cp)])) (fun _ k => XS.aload X16.here hx rfl (hb hby at_233) rfl rfl k) ?_
              refine Done.st (B := T16.setTop (mkF m 237 #[.val (.long x0), .second, .val (.long x1), .second, .val (.int x2), .val (.long lim), .second, .val (.int ((x2 >>> ((3 : Int32) &&& 31)) &&& (3 : Int32))), .val (.long don), .second, .val (.ref b1), .val (.long (own_until lim don)), .second, .val (.long exp), .second, .val (.int (1 : Int32)), .val (.ref cp)] [(.long (own_until lim don)), (.ref cp)])) (fun _ k => XS.lload X16.here hx rfl (hb hby at_235) rfl k) ?_
              refine Done.st (B := T16.setTop (mkF m 238 #[.val (.long x0), .second, .val (.long x1), .second, .val (.int x2), .val (.long lim), .second, .val (.int ((x2 >>> ((3 : Int32) &&& 31)) &&& (3 : Int32))), .val (.long don), .second, .val (.ref b1), .val (.long (own_until lim don)), .second, .val (.long exp), .second, .val (.int (1 : Int32)), .val (.ref cp)] [(.long (1 : Int64)), (.long (own_until lim don)), (.ref cp)])) (fun _ k => XS.lconst X16.here hx rfl (hb hby at_237) k) ?_
              refine Done.st (B := T16.setTop (mkF m 239 #[.val (.long x0), .second, .val (.long x1), .second, .val (.int x2), .val (.long lim), .second, .val (.int ((x2 >>> ((3 : Int32) &&& 31)) &&& (3 : Int32))), .val (.long don), .second, .val (.ref b1), .val (.long (own_until lim don)), .second, .val (.long exp), .second, .val (.int (1 : Int32)), .val (.ref cp)] [(.long ((own_until lim don) - (1 : Int64))), (.ref cp)])) (fun _ k => XS.lsub X16.here hx rfl (hb hby at_238) rfl k) ?_
              obtain ⟨cq17, kq17, q17a, q17b, q17c⟩ := isOf hZ rfl f16_0
              obtain ⟨_, _, ⟨T17, L17, k17, n17⟩, -, X17, ⟨Lc17, hQ17, l17, y17, z17⟩, st17⟩ := X16.virtualBack hx (y := (⟨"com/example/percurso/percurso/completeness/Work", "add", "(J)V"⟩ : MethodName)) (z := (⟨"com/example/percurso/percurso/completeness/Work", "add", "(J)V"⟩ : MethodName)) hown (mvT hZ (hw _ (List.mem_of_getElem? (i := 12) rfl))) (mvT hZ (hw _ (List.mem_of_getElem? (i := 13) rfl))) (notFace_of_selects (args := #[]) (mvT hZ (hw _ (List.mem_of_getElem? (i := 15) rfl)))) (mvT hZ (hw _ (List.mem_of_getElem? (i := 15) rfl))) (mvT hZ (hw _ (List.mem_of_getElem? (i := 14) rfl))) (by decide) (backOf (W := 0) (rm3 l Z a0 hw [] cp ((own_until lim don) - (1 : Int64)) lim don T16.heap n0 Z16 f16_1 f16_2 f16_0 ge_cp) hZ (hw _ (List.mem_of_getElem? (i := 16) rfl)) (hw _ (List.mem_of_getElem? (i := 3) rfl)) (by decide) (by decide)) q17a q17c (g := (mkF m 239 #[.val (.long x0), .second, .val (.long x1), .second, .val (.int x2), .val (.long lim), .second, .val (.int ((x2 >>> ((3 : Int32) &&& 31)) &&& (3 : Int32))), .val (.long don), .second, .val (.ref b1), .val (.long (own_until lim don)), .second, .val (.long exp), .second, .val (.int (1 : Int32)), .val (.ref cp)] [(.long ((own_until lim don) - (1 : Int64))), (.ref cp)])) rfl (by rw [hml]; rfl) (Steps.refl _) (argsL := [(.long ((own_until lim don) - (1 : Int64)))]) (rest := []) (lenOf pd_0 rfl) rfl (by show 2 * 0 + _ ≤ _; exact Nat.le_of_eq rfl) (hb hby at_239) (fun _ _ => ⟨rfl, rfl, (by decide : 2 + 0 ≤ _), (by decide : 4 + 0 ≤ _)⟩)
              dsimp only [Pt.U, Pt.locs, Pt.cells, Pt.slots] at X17 l17 y17 z17 st17 hQ17
              subst l17 y17 z17
              obtain ⟨rfl, N17q, K17, f17_0, f17_1, f17_2⟩ := hQ17
              have N17 := Fr.app N16 N17q
              have Z17 : n0 ≤ T17.heap.size := Nat.le_trans Z16 K17.1
              refine Done.st (B := T17.setTop (mkF m 242 #[.val (.long x0), .second, .val (.long x1), .second, .val (.int x2), .val (.long lim), .second, .val (.int ((x2 >>> ((3 : Int32) &&& 31)) &&& (3 : Int32))), .val (.long don), .second, .val (.ref b1), .val (.long (own_until lim don)), .second, .val (.long exp), .second, .val (.int (1 : Int32)), .val (.ref cp)] [])) (fun _ k => st17.trans k) ?_
              refine Done.st (B := T17.setTop (mkF m 244 #[.val (.long x0), .second, .val (.long x1), .second, .val (.int x2), .val (.long lim), .second, .val (.int ((x2 >>> ((3 : Int32) &&& 31)) &&& (3 : Int32))), .val (.long don), .second, .val (.ref b1), .val (.long (own_until lim don)), .second, .val (.long exp), .second, .val (.int (1 : Int32)), .val (.ref cp)] [(.ref cp)])) (fun _ k => XS.aload X17.here hx rfl (hb hby at_242) rfl rfl k) ?_
              obtain ⟨cq18, kq18, q18a, q18b, q18c⟩ := isOf hZ rfl f17_0
              obtain ⟨_, _, ⟨T18, L18, k18, n18⟩, -, X18, ⟨Lc18, hQ18, l18, y18, z18⟩, st18⟩ := X17.virtualBack hx (y := (⟨"com/example/percurso/percurso/completeness/Work", "spent", "()Z"⟩ : MethodName)) (z := (⟨"com/example/percurso/percurso/completeness/Work", "spent", "()Z"⟩ : MethodName)) hown (mvT hZ (hw _ (List.mem_of_getElem? (i := 25) rfl))) (mvT hZ (hw _ (List.mem_of_getElem? (i := 26) rfl))) (notFace_of_selects (args := #[]) (mvT hZ (hw _ (List.mem_of_getElem? (i := 28) rfl)))) (mvT hZ (hw _ (List.mem_of_getElem? (i := 28) rfl))) (mvT hZ (hw _ (List.mem_of_getElem? (i := 27) rfl))) (by decide) (backOf (W := 0) (rm5 l Z a0 hw [] cp lim (don + ((own_until lim don) - (1 : Int64))) T17.heap n0 Z17 f17_1 f17_2 f17_0 ge_cp) hZ (hw _ (List.mem_of_getElem? (i := 29) rfl)) (hw _ (List.mem_of_getElem? (i := 3) rfl)) (by decide) (by decide)) q18a q18c (g := (mkF m 244 #[.val (.long x0), .second, .val (.long x1), .second, .val (.int x2), .val (.long lim), .second, .val (.int ((x2 >>> ((3 : Int32) &&& 31)) &&& (3 : Int32))), .val (.long don), .second, .val (.ref b1), .val (.long (own_until lim don)), .second, .val (.long exp), .second, .val (.int (1 : Int32)), .val (.ref cp)] [(.ref cp)])) rfl (by rw [hml]; rfl) (Steps.refl _) (argsL := []) (rest := []) (lenOf pd_2 rfl) rfl (by show 2 * 0 + _ ≤ _; exact Nat.le_of_eq rfl) (hb hby at_244) (fun _ _ => ⟨rfl, rfl, (by decide : 2 + 0 ≤ _), (by decide : 4 + 0 ≤ _)⟩)
              dsimp only [Pt.U, Pt.locs, Pt.cells, Pt.slots] at X18 l18 y18 z18 st18 hQ18
              subst l18 y18 z18
              obtain ⟨rfl, N18q, e18⟩ := hQ18
              have N18 := Fr.app N17 N18q
              refine Done.st (B := T18.setTop (mkF m 247 #[.val (.long x0), .second, .val (.long x1), .second, .val (.int x2), .val (.long lim), .second, .val (.int ((x2 >>> ((3 : Int32) &&& 31)) &&& (3 : Int32))), .val (.long don), .second, .val (.ref b1), .val (.long (own_until lim don)), .second, .val (.long exp), .second, .val (.int (1 : Int32)), .val (.ref cp)] [(.int (own_spent (don + ((own_until lim don) - (1 : Int64))) lim))])) (fun _ k => st18.trans k) ?_
              refine Done.st (B := T18.setTop (mkF m 250 #[.val (.long x0), .second, .val (.long x1), .second, .val (.int x2), .val (.long lim), .second, .val (.int ((x2 >>> ((3 : Int32) &&& 31)) &&& (3 : Int32))), .val (.long don), .second, .val (.ref b1), .val (.long (own_until lim don)), .second, .val (.long exp), .second, .val (.int (1 : Int32)), .val (.ref cp)] [])) (fun _ k => XS.ifNo X18.here hx rfl (hb hby at_247) rfl ((if0 _ _).trans (teq (own_c1 hL hD hc223 hc214)).2) k) ?_
              refine Done.st (B := T18.setTop (mkF m 251 #[.val (.long x0), .second, .val (.long x1), .second, .val (.int x2), .val (.long lim), .second, .val (.int ((x2 >>> ((3 : Int32) &&& 31)) &&& (3 : Int32))), .val (.long don), .second, .val (.ref b1), .val (.long (own_until lim don)), .second, .val (.long exp), .second, .val (.int (1 : Int32)), .val (.ref cp)] [(.int (1 : Int32))])) (fun _ k => XS.iconst X18.here hx rfl (hb hby at_250) k) ?_
              refine Done.st (B := T18.setTop (mkF m 255 #[.val (.long x0), .second, .val (.long x1), .second, .val (.int x2), .val (.long lim), .second, .val (.int ((x2 >>> ((3 : Int32) &&& 31)) &&& (3 : Int32))), .val (.long don), .second, .val (.ref b1), .val (.long (own_until lim don)), .second, .val (.long exp), .second, .val (.int (1 : Int32)), .val (.ref cp)] [(.int (1 : Int32))])) (fun _ k => XS.goto X18.here hx rfl (pc0 := 251) (pc' := 255) rfl (hb hby at_251) (by decide) (by decide) k) ?_
              refine Done.st (B := T18.setTop (mkF m 257 #[.val (.long x0), .second, .val (.long x1), .second, .val (.int x2), .val (.long lim), .second, .val (.int ((x2 >>> ((3 : Int32) &&& 31)) &&& (3 : Int32))), .val (.long don), .second, .val (.ref b1), .val (.long (own_until lim don)), .second, .val (.long exp), .second, .val (.int (1 : Int32)), .val (.ref cp)] [])) (fun _ k => XS.istore X18.here hx rfl (hb hby at_255) rfl (l' := #[.val (.long x0), .second, .val (.long x1), .second, .val (.int x2), .val (.long lim), .second, .val (.int ((x2 >>> ((3 : Int32) &&& 31)) &&& (3 : Int32))), .val (.long don), .second, .val (.ref b1), .val (.long (own_until lim don)), .second, .val (.long exp), .second, .val (.int (1 : Int32)), .val (.ref cp)]) rfl k) ?_
              refine Done.st (B := T18.setTop (mkF m 259 #[.val (.long x0), .second, .val (.long x1), .second, .val (.int x2), .val (.long lim), .second, .val (.int ((x2 >>> ((3 : Int32) &&& 31)) &&& (3 : Int32))), .val (.long don), .second, .val (.ref b1), .val (.long (own_until lim don)), .second, .val (.long exp), .second, .val (.int (1 : Int32)), .val (.ref cp)] [(.int (1 : Int32))])) (fun _ k => XS.iload X18.here hx rfl (hb hby at_257) rfl k) ?_
              refine Done.st (B := T18.setTop (mkF m 262 #[.val (.long x0), .second, .val (.long x1), .second, .val (.int x2), .val (.long lim), .second, .val (.int ((x2 >>> ((3 : Int32) &&& 31)) &&& (3 : Int32))), .val (.long don), .second, .val (.ref b1), .val (.long (own_until lim don)), .second, .val (.long exp), .second, .val (.int (1 : Int32)), .val (.ref cp)] [])) (fun _ k => XS.ifNo X18.here hx rfl (hb hby at_259) rfl ((if0 _ _).trans (feq (by decide : ¬ ((1 : Int32) = (0 : Int32)))).1) k) ?_
              refine Done.st (B := T18.setTop (mkF m 264 #[.val (.long x0), .second, .val (.long x1), .second, .val (.int x2), .val (.long lim), .second, .val (.int ((x2 >>> ((3 : Int32) &&& 31)) &&& (3 : Int32))), .val (.long don), .second, .val (.ref b1), .val (.long (own_until lim don)), .second, .val (.long exp), .second, .val (.int (1 : Int32)), .val (.ref cp)] [(.long lim)])) (fun _ k => XS.lload X18.here hx rfl (hb hby at_262) rfl k) ?_
              refine Done.st (B := T18.setTop (mkF m 267 #[.val (.long x0), .second, .val (.long x1), .second, .val (.int x2), .val (.long lim), .second, .val (.int ((x2 >>> ((3 : Int32) &&& 31)) &&& (3 : Int32))), .val (.long don), .second, .val (.ref b1), .val (.long (own_until lim don)), .second, .val (.long exp), .second, .val (.int (1 : Int32)), .val (.ref cp)] [(.long (9223372036854775807 : Int64)), (.long lim)])) (fun _ k => X18.ldc2Long hx hown (mvT hZ (hw _ (List.mem_of_getElem? (i := 0) rfl))) (g := (mkF m 264 #[.val (.long x0), .second, .val (.long x1), .second, .val (.int x2), .val (.long lim), .second, .val (.int ((x2 >>> ((3 : Int32) &&& 31)) &&& (3 : Int32))), .val (.long don), .second, .val (.ref b1), .val (.long (own_until lim don)), .second, .val (.long exp), .second, .val (.int (1 : Int32)), .val (.ref cp)] [(.long lim)])) rfl (hb hby at_264) _ k) ?_
              refine Done.st (B := T18.setTop (mkF m 268 #[.val (.long x0), .second, .val (.long x1), .second, .val (.int x2), .val (.long lim), .second, .val (.int ((x2 >>> ((3 : Int32) &&& 31)) &&& (3 : Int32))), .val (.long don), .second, .val (.ref b1), .val (.long (own_until lim don)), .second, .val (.long exp), .second, .val (.int (1 : Int32)), .val (.ref cp)] [(.int (lcmpW lim (9223372036854775807 : Int64)))])) (fun _ k => XS.lcmp X18.here hx rfl (hb hby at_267) rfl k) ?_
              by_cases hc268 : lim < (9223372036854775807 : Int64)
              · refine Done.st (B := T18.setTop (mkF m 271 #[.val (.long x0), .second, .val (.long x1), .second, .val (.int x2), .val (.long lim), .second, .val (.int ((x2 >>> ((3 : Int32) &&& 31)) &&& (3 : Int32))), .val (.long don), .second, .val (.ref b1), .val (.long (own_until lim don)), .second, .val (.long exp), .second, .val (.int (1 : Int32)), .val (.ref cp)] [])) (fun _ k => XS.ifNo X18.here hx rfl (hb hby at_268) rfl ((if0 _ _).trans (tlt ((lw_lt _ _).mpr hc268)).2.1) k) ?_
                refine Done.st (B := T18.setTop (mkF m 273 #[.val (.long x0), .second, .val (.long x1), .second, .val (.int x2), .val (.long lim), .second, .val (.int ((x2 >>> ((3 : Int32) &&& 31)) &&& (3 : Int32))), .val (.long don), .second, .val (.ref b1), .val (.long (own_until lim don)), .second, .val (.long exp), .second, .val (.int (1 : Int32)), .val (.ref cp)] [(.ref cp)])) (fun _ k => XS.aload X18.here hx rfl (hb hby at_271) rfl rfl k) ?_
                refine Done.st (B := T18.setTop (mkF m 274 #[.val (.long x0), .second, .val (.long x1), .second, .val (.int x2), .val (.long lim), .second, .val (.int ((x2 >>> ((3 : Int32) &&& 31)) &&& (3 : Int32))), .val (.long don), .second, .val (.ref b1), .val (.long (own_until lim don)), .second, .val (.long exp), .second, .val (.int (1 : Int32)), .val (.ref cp)] [(.long (1 : Int64)), (.ref cp)])) (fun _ k => XS.lconst X18.here hx rfl (hb hby at_273) k) ?_
                obtain ⟨cq19, kq19, q19a, q19b, q19c⟩ := isOf hZ e18 f17_0
                obtain ⟨_, _, ⟨T19, L19, k19, n19⟩, -, X19, ⟨Lc19, hQ19, l19, y19, z19⟩, st19⟩ := X18.virtualBack hx (y := (⟨"com/example/percurso/percurso/completeness/Work", "add", "(J)V"⟩ : MethodName)) (z := (⟨"com/example/percurso/percurso/completeness/Work", "add", "(J)V"⟩ : MethodName)) hown (mvT hZ (hw _ (List.mem_of_getElem? (i := 12) rfl))) (mvT hZ (hw _ (List.mem_of_getElem? (i := 13) rfl))) (notFace_of_selects (args := #[]) (mvT hZ (hw _ (List.mem_of_getElem? (i := 15) rfl)))) (mvT hZ (hw _ (List.mem_of_getElem? (i := 15) rfl))) (mvT hZ (hw _ (List.mem_of_getElem? (i := 14) rfl))) (by decide) (backOf (W := 0) (rm3 l Z a0 hw [] cp (1 : Int64) lim (don + ((own_until lim don) - (1 : Int64))) T17.heap n0 Z17 f17_1 f17_2 f17_0 ge_cp) hZ (hw _ (List.mem_of_getElem? (i := 16) rfl)) (hw _ (List.mem_of_getElem? (i := 3) rfl)) (by decide) (by decide)) q19a q19c (g := (mkF m 274 #[.val (.long x0), .second, .val (.long x1), .second, .val (.int x2), .val (.long lim), .second, .val (.int ((x2 >>> ((3 : Int32) &&& 31)) &&& (3 : Int32))), .val (.long don), .second, .val (.ref b1), .val (.long (own_until lim don)), .second, .val (.long exp), .second, .val (.int (1 : Int32)), .val (.ref cp)] [(.long (1 : Int64)), (.ref cp)])) rfl (by rw [hml]; rfl) (Steps.refl _) (argsL := [(.long (1 : Int64))]) (rest := []) (lenOf pd_0 rfl) rfl (by show 2 * 0 + _ ≤ _; exact Nat.le_of_eq rfl) (hb hby at_274) (fun _ _ => ⟨rfl, e18, (by decide : 2 + 0 ≤ _), (by decide : 4 + 0 ≤ _)⟩)
                dsimp only [Pt.U, Pt.locs, Pt.cells, Pt.slots] at X19 l19 y19 z19 st19 hQ19
                subst l19 y19 z19
                obtain ⟨rfl, N19q, K19, f19_0, f19_1, f19_2⟩ := hQ19
                have N19 := Fr.app N18 N19q
                have Z19 : n0 ≤ T19.heap.size := Nat.le_trans Z17 K19.1
                refine Done.st (B := T19.setTop (mkF m 277 #[.val (.long x0), .second, .val (.long x1), .second, .val (.int x2), .val (.long lim), .second, .val (.int ((x2 >>> ((3 : Int32) &&& 31)) &&& (3 : Int32))), .val (.long don), .second, .val (.ref b1), .val (.long (own_until lim don)), .second, .val (.long exp), .second, .val (.int (1 : Int32)), .val (.ref cp)] [])) (fun _ k => st19.trans k) ?_
                refine Done.st (B := T19.setTop (mkF m 279 #[.val (.long x0), .second, .val (.long x1), .second, .val (.int x2), .val (.long lim), .second, .val (.int ((x2 >>> ((3 : Int32) &&& 31)) &&& (3 : Int32))), .val (.long don), .second, .val (.ref b1), .val (.long (own_until lim don)), .second, .val (.long exp), .second, .val (.int (1 : Int32)), .val (.ref cp)] [(.ref cp)])) (fun _ k => XS.aload X19.here hx rfl (hb hby at_277) rfl rfl k) ?_
                obtain ⟨cq20, kq20, q20a, q20b, q20c⟩ := isOf hZ rfl f19_0
                obtain ⟨_, _, ⟨T20, L20, k20, n20⟩, -, X20, ⟨Lc20, hQ20, l20, y20, z20⟩, st20⟩ := X19.virtualBack hx (y := (⟨"com/example/percurso/percurso/completeness/Work", "spent", "()Z"⟩ : MethodName)) (z := (⟨"com/example/percurso/percurso/completeness/Work", "spent", "()Z"⟩ : MethodName)) hown (mvT hZ (hw _ (List.mem_of_getElem? (i := 25) rfl))) (mvT hZ (hw _ (List.mem_of_getElem? (i := 26) rfl))) (notFace_of_selects (args := #[]) (mvT hZ (hw _ (List.mem_of_getElem? (i := 28) rfl)))) (mvT hZ (hw _ (List.mem_of_getElem? (i := 28) rfl))) (mvT hZ (hw _ (List.mem_of_getElem? (i := 27) rfl))) (by decide) (backOf (W := 0) (rm5 l Z a0 hw [] cp lim ((don + ((own_until lim don) - (1 : Int64))) + (1 : Int64)) T19.heap n0 Z19 f19_1 f19_2 f19_0 ge_cp) hZ (hw _ (List.mem_of_getElem? (i := 29) rfl)) (hw _ (List.mem_of_getElem? (i := 3) rfl)) (by decide) (by decide)) q20a q20c (g := (mkF m 279 #[.val (.long x0), .second, .val (.long x1), .second, .val (.int x2), .val (.long lim), .second, .val (.int ((x2 >>> ((3 : Int32) &&& 31)) &&& (3 : Int32))), .val (.long don), .second, .val (.ref b1), .val (.long (own_until lim don)), .second, .val (.long exp), .second, .val (.int (1 : Int32)), .val (.ref cp)] [(.ref cp)])) rfl (by rw [hml]; rfl) (Steps.refl _) (argsL := []) (rest := []) (lenOf pd_2 rfl) rfl (by show 2 * 0 + _ ≤ _; exact Nat.le_of_eq rfl) (hb hby at_279) (fun _ _ => ⟨rfl, rfl, (by decide : 2 + 0 ≤ _), (by decide : 4 + 0 ≤ _)⟩)
                dsimp only [Pt.U, Pt.locs, Pt.cells, Pt.slots] at X20 l20 y20 z20 st20 hQ20
                subst l20 y20 z20
                obtain ⟨rfl, N20q, e20⟩ := hQ20
                have N20 := Fr.app N19 N20q
                refine Done.st (B := T20.setTop (mkF m 282 #[.val (.long x0), .second, .val (.long x1), .second, .val (.int x2), .val (.long lim), .second, .val (.int ((x2 >>> ((3 : Int32) &&& 31)) &&& (3 : Int32))), .val (.long don), .second, .val (.ref b1), .val (.long (own_until lim don)), .second, .val (.long exp), .second, .val (.int (1 : Int32)), .val (.ref cp)] [(.int (own_spent ((don + ((own_until lim don) - (1 : Int64))) + (1 : Int64)) lim))])) (fun _ k => st20.trans k) ?_
                refine Done.st (B := T20.setTop (mkF m 284 #[.val (.long x0), .second, .val (.long x1), .second, .val (.int x2), .val (.long lim), .second, .val (.int ((x2 >>> ((3 : Int32) &&& 31)) &&& (3 : Int32))), .val (.long don), .second, .val (.ref b1), .val (.long (own_until lim don)), .second, .val (.long exp), .second, .val (.int (own_spent ((don + ((own_until lim don) - (1 : Int64))) + (1 : Int64)) lim)), .val (.ref cp)] [])) (fun _ k => XS.istore X20.here hx rfl (hb hby at_282) rfl (l' := #[.val (.long x0), .second, .val (.long x1), .second, .val (.int x2), .val (.long lim), .second, .val (.int ((x2 >>> ((3 : Int32) &&& 31)) &&& (3 : Int32))), .val (.long don), .second, .val (.ref b1), .val (.long (own_until lim don)), .second, .val (.long exp), .second, .val (.int (own_spent ((don + ((own_until lim don) - (1 : Int64))) + (1 : Int64)) lim)), .val (.ref cp)]) rfl k) ?_
                refine Done.st (B := T20.setTop (mkF m 286 #[.val (.long x0), .second, .val (.long x1), .second, .val (.int x2), .val (.long lim), .second, .val (.int ((x2 >>> ((3 : Int32) &&& 31)) &&& (3 : Int32))), .val (.long don), .second, .val (.ref b1), .val (.long (own_until lim don)), .second, .val (.long exp), .second, .val (.int (own_spent ((don + ((own_until lim don) - (1 : Int64))) + (1 : Int64)) lim)), .val (.ref cp)] [(.int (own_spent ((don + ((own_until lim don) - (1 : Int64))) + (1 : Int64)) lim))])) (fun _ k => XS.iload X20.here hx rfl (hb hby at_284) rfl k) ?_
                obtain ⟨fs, hr, hrun, hended, hW, hsame⟩ := X20.leave (v := some (.int (nar .boolean (own_spent ((don + ((own_until lim don) - (1 : Int64))) + (1 : Int64)) lim)))) (hlocks := hlk) (fun h => by rw [Bd.returns] at h; cases h)
                refine Done.fin (retN X20 hx (t := .boolean) Bd.returns (by simp) (hb hby at_286) hr) hrun hended ⟨_, _, rfl, ?_, ⟨_, rfl⟩, hW, hsame.mono (by decide) (by decide)⟩
                show Qrm0 Z x0 x1 x2 h0 n0 _ T20.heap _
                rw [e20]
                exact ⟨by rw [own_c2 hL hD hc223 hc214 hc268]; rfl, N20⟩
              · refine Done.st (B := T18.setTop (mkF m 284 #[.val (.long x0), .second, .val (.long x1), .second, .val (.int x2), .val (.long lim), .second, .val (.int ((x2 >>> ((3 : Int32) &&& 31)) &&& (3 : Int32))), .val (.long don), .second, .val (.ref b1), .val (.long (own_until lim don)), .second, .val (.long exp), .second, .val (.int (1 : Int32)), .val (.ref cp)] [])) (fun _ k => XS.ifYes X18.here hx rfl (pc0 := 268) (pc' := 284) rfl (hb hby at_268) rfl ((if0 _ _).trans (flt (fun z => hc268 ((lw_lt _ _).mp z))).2.1) (by decide) (by decide) k) ?_
                refine Done.st (B := T18.setTop (mkF m 286 #[.val (.long x0), .second, .val (.long x1), .second, .val (.int x2), .val (.long lim), .second, .val (.int ((x2 >>> ((3 : Int32) &&& 31)) &&& (3 : Int32))), .val (.long don), .second, .val (.ref b1), .val (.long (own_until lim don)), .second, .val (.long exp), .second, .val (.int (1 : Int32)), .val (.ref cp)] [(.int (1 : Int32))])) (fun _ k => XS.iload X18.here hx rfl (hb hby at_284) rfl k) ?_
                obtain ⟨fs, hr, hrun, hended, hW, hsame⟩ := X18.leave (v := some (.int (1 : Int32))) (hlocks := hlk) (fun h => by rw [Bd.returns] at h; cases h)
                refine Done.fin (retN X18 hx (t := .boolean) Bd.returns (by simp) (hb hby at_286) hr) hrun hended ⟨_, _, rfl, ?_, ⟨_, rfl⟩, hW, hsame.mono (by decide) (by decide)⟩
                show Qrm0 Z x0 x1 x2 h0 n0 _ T18.heap _
                rw [e18]
                exact ⟨rfl, N18⟩
            · refine Done.st (B := T15.setTop (mkF m 284 #[.val (.long x0), .second, .val (.long x1), .second, .val (.int x2), .val (.long lim), .second, .val (.int ((x2 >>> ((3 : Int32) &&& 31)) &&& (3 : Int32))), .val (.long don), .second, .val (.ref b1), .val (.long (own_until lim don)), .second, .val (.long exp), .second, .val (.int (1 : Int32)), .unset] [])) (fun _ k => XS.ifYes X15.here hx rfl (pc0 := 223) (pc' := 284) rfl (hb hby at_223) rfl ((if0 _ _).trans (flt (fun z => hc223 ((lw_lt _ _).mp z))).2.1) (by decide) (by decide) k) ?_
              refine Done.st (B := T15.setTop (mkF m 286 #[.val (.long x0), .second, .val (.long x1), .second, .val (.int x2), .val (.long lim), .second, .val (.int ((x2 >>> ((3 : Int32) &&& 31)) &&& (3 : Int32))), .val (.long don), .second, .val (.ref b1), .val (.long (own_until lim don)), .second, .val (.long exp), .second, .val (.int (1 : Int32)), .unset] [(.int (1 : Int32))])) (fun _ k => XS.iload X15.here hx rfl (hb hby at_284) rfl k) ?_
              obtain ⟨fs, hr, hrun, hended, hW, hsame⟩ := X15.leave (v := some (.int (1 : Int32))) (hlocks := hlk) (fun h => by rw [Bd.returns] at h; cases h)
              refine Done.fin (retN X15 hx (t := .boolean) Bd.returns (by simp) (hb hby at_286) hr) hrun hended ⟨_, _, rfl, ?_, ⟨_, rfl⟩, hW, hsame.mono (by decide) (by decide)⟩
              show Qrm0 Z x0 x1 x2 h0 n0 _ T15.heap _
              rw [e15]
              exact ⟨rfl, N15⟩
          · refine Done.st (B := T15.setTop (mkF m 284 #[.val (.long x0), .second, .val (.long x1), .second, .val (.int x2), .val (.long lim), .second, .val (.int ((x2 >>> ((3 : Int32) &&& 31)) &&& (3 : Int32))), .val (.long don), .second, .val (.ref b1), .val (.long (own_until lim don)), .second, .val (.long exp), .second, .val (.int (1 : Int32)), .unset] [])) (fun _ k => XS.ifYes X15.here hx rfl (pc0 := 214) (pc' := 284) rfl (hb hby at_214) rfl ((if0 _ _).trans (flt (fun z => hc214 ((lw_gt _ _).mp z))).2.2.2) (by decide) (by decide) k) ?_
            refine Done.st (B := T15.setTop (mkF m 286 #[.val (.long x0), .second, .val (.long x1), .second, .val (.int x2), .val (.long lim), .second, .val (.int ((x2 >>> ((3 : Int32) &&& 31)) &&& (3 : Int32))), .val (.long don), .second, .val (.ref b1), .val (.long (own_until lim don)), .second, .val (.long exp), .second, .val (.int (1 : Int32)), .unset] [(.int (1 : Int32))])) (fun _ k => XS.iload X15.here hx rfl (hb hby at_284) rfl k) ?_
            obtain ⟨fs, hr, hrun, hended, hW, hsame⟩ := X15.leave (v := some (.int (1 : Int32))) (hlocks := hlk) (fun h => by rw [Bd.returns] at h; cases h)
            refine Done.fin (retN X15 hx (t := .boolean) Bd.returns (by simp) (hb hby at_286) hr) hrun hended ⟨_, _, rfl, ?_, ⟨_, rfl⟩, hW, hsame.mono (by decide) (by decide)⟩
            show Qrm0 Z x0 x1 x2 h0 n0 _ T15.heap _
            rw [e15]
            exact ⟨rfl, N15⟩
      refine Done.st (B := T4.setTop (mkF m 113 #[.val (.long x0), .second, .val (.long x1), .second, .val (.int x2), .val (.long lim), .second, .val (.int ((x2 >>> ((3 : Int32) &&& 31)) &&& (3 : Int32))), .val (.long don), .second, .val (.ref b1), .val (.long (own_until lim don)), .second, .unset, .unset, .unset, .unset] [(.long don)])) (fun _ k => XS.lload X4.here hx rfl (hb hby at_111) rfl k) ?_
      refine Done.st (B := T4.setTop (mkF m 115 #[.val (.long x0), .second, .val (.long x1), .second, .val (.int x2), .val (.long lim), .second, .val (.int ((x2 >>> ((3 : Int32) &&& 31)) &&& (3 : Int32))), .val (.long don), .second, .val (.ref b1), .val (.long (own_until lim don)), .second, .unset, .unset, .unset, .unset] [(.long lim), (.long don)])) (fun _ k => XS.lload X4.here hx rfl (hb hby at_113) rfl k) ?_
      refine Done.st (B := T4.setTop (mkF m 116 #[.val (.long x0), .second, .val (.long x1), .second, .val (.int x2), .val (.long lim), .second, .val (.int ((x2 >>> ((3 : Int32) &&& 31)) &&& (3 : Int32))), .val (.long don), .second, .val (.ref b1), .val (.long (own_until lim don)), .second, .unset, .unset, .unset, .unset] [(.int (lcmpW don lim))])) (fun _ k => XS.lcmp X4.here hx rfl (hb hby at_115) rfl k) ?_
      by_cases hc116 : lim < don
      · refine Done.st (B := T4.setTop (mkF m 119 #[.val (.long x0), .second, .val (.long x1), .second, .val (.int x2), .val (.long lim), .second, .val (.int ((x2 >>> ((3 : Int32) &&& 31)) &&& (3 : Int32))), .val (.long don), .second, .val (.ref b1), .val (.long (own_until lim don)), .second, .unset, .unset, .unset, .unset] [])) (fun _ k => XS.ifNo X4.here hx rfl (hb hby at_116) rfl ((if0 _ _).trans (tlt ((lw_gt _ _).mpr hc116)).2.2.2) k) ?_
        refine Done.st (B := T4.setTop (mkF m 120 #[.val (.long x0), .second, .val (.long x1), .second, .val (.int x2), .val (.long lim), .second, .val (.int ((x2 >>> ((3 : Int32) &&& 31)) &&& (3 : Int32))), .val (.long don), .second, .val (.ref b1), .val (.long (own_until lim don)), .second, .unset, .unset, .unset, .unset] [(.long (0 : Int64))])) (fun _ k => XS.lconst X4.here hx rfl (hb hby at_119) k) ?_
        refine Done.st (B := T4.setTop (mkF m 122 #[.val (.long x0), .second, .val (.long x1), .second, .val (.int x2), .val (.long lim), .second, .val (.int ((x2 >>> ((3 : Int32) &&& 31)) &&& (3 : Int32))), .val (.long don), .second, .val (.ref b1), .val (.long (own_until lim don)), .second, .val (.long (0 : Int64)), .second, .unset, .unset] [])) (fun _ k => XS.lstore X4.here hx rfl (hb hby at_120) rfl (l' := #[.val (.long x0), .second, .val (.long x1), .second, .val (.int x2), .val (.long lim), .second, .val (.int ((x2 >>> ((3 : Int32) &&& 31)) &&& (3 : Int32))), .val (.long don), .second, .val (.ref b1), .val (.long (own_until lim don)), .second, .val (.long (0 : Int64)), .second, .unset, .unset]) rfl k) ?_
        refine Done.st (B := T4.setTop (mkF m 158 #[.val (.long x0), .second, .val (.long x1), .second, .val (.int x2), .val (.long lim), .second, .val (.int ((x2 >>> ((3 : Int32) &&& 31)) &&& (3 : Int32))), .val (.long don), .second, .val (.ref b1), .val (.long (own_until lim don)), .second, .val (.long (0 : Int64)), .second, .unset, .unset] [])) (fun _ k => XS.goto X4.here hx rfl (pc0 := 122) (pc' := 158) rfl (hb hby at_122) (by decide) (by decide) k) ?_
        exact j158 (0 : Int64) (own_ex1 hL hD hc116)
      · refine Done.st (B := T4.setTop (mkF m 125 #[.val (.long x0), .second, .val (.long x1), .second, .val (.int x2), .val (.long lim), .second, .val (.int ((x2 >>> ((3 : Int32) &&& 31)) &&& (3 : Int32))), .val (.long don), .second, .val (.ref b1), .val (.long (own_until lim don)), .second, .unset, .unset, .unset, .unset] [])) (fun _ k => XS.ifYes X4.here hx rfl (pc0 := 116) (pc' := 125) rfl (hb hby at_116) rfl ((if0 _ _).trans (flt (fun z => hc116 ((lw_gt _ _).mp z))).2.2.2) (by decide) (by decide) k) ?_
        refine Done.st (B := T4.setTop (mkF m 127 #[.val (.long x0), .second, .val (.long x1), .second, .val (.int x2), .val (.long lim), .second, .val (.int ((x2 >>> ((3 : Int32) &&& 31)) &&& (3 : Int32))), .val (.long don), .second, .val (.ref b1), .val (.long (own_until lim don)), .second, .unset, .unset, .unset, .unset] [(.long lim)])) (fun _ k => XS.lload X4.here hx rfl (hb hby at_125) rfl k) ?_
        refine Done.st (B := T4.setTop (mkF m 130 #[.val (.long x0), .second, .val (.long x1), .second, .val (.int x2), .val (.long lim), .second, .val (.int ((x2 >>> ((3 : Int32) &&& 31)) &&& (3 : Int32))), .val (.long don), .second, .val (.ref b1), .val (.long (own_until lim don)), .second, .unset, .unset, .unset, .unset] [(.long (9223372036854775807 : Int64)), (.long lim)])) (fun _ k => X4.ldc2Long hx hown (mvT hZ (hw _ (List.mem_of_getElem? (i := 0) rfl))) (g := (mkF m 127 #[.val (.long x0), .second, .val (.long x1), .second, .val (.int x2), .val (.long lim), .second, .val (.int ((x2 >>> ((3 : Int32) &&& 31)) &&& (3 : Int32))), .val (.long don), .second, .val (.ref b1), .val (.long (own_until lim don)), .second, .unset, .unset, .unset, .unset] [(.long lim)])) rfl (hb hby at_127) _ k) ?_
        refine Done.st (B := T4.setTop (mkF m 131 #[.val (.long x0), .second, .val (.long x1), .second, .val (.int x2), .val (.long lim), .second, .val (.int ((x2 >>> ((3 : Int32) &&& 31)) &&& (3 : Int32))), .val (.long don), .second, .val (.ref b1), .val (.long (own_until lim don)), .second, .unset, .unset, .unset, .unset] [(.int (lcmpW lim (9223372036854775807 : Int64)))])) (fun _ k => XS.lcmp X4.here hx rfl (hb hby at_130) rfl k) ?_
        by_cases hc131 : lim = (9223372036854775807 : Int64)
        · refine Done.st (B := T4.setTop (mkF m 134 #[.val (.long x0), .second, .val (.long x1), .second, .val (.int x2), .val (.long lim), .second, .val (.int ((x2 >>> ((3 : Int32) &&& 31)) &&& (3 : Int32))), .val (.long don), .second, .val (.ref b1), .val (.long (own_until lim don)), .second, .unset, .unset, .unset, .unset] [])) (fun _ k => XS.ifNo X4.here hx rfl (hb hby at_131) rfl ((if0 _ _).trans (teq ((lw_eq _ _).mpr hc131)).2) k) ?_
          refine Done.st (B := T4.setTop (mkF m 136 #[.val (.long x0), .second, .val (.long x1), .second, .val (.int x2), .val (.long lim), .second, .val (.int ((x2 >>> ((3 : Int32) &&& 31)) &&& (3 : Int32))), .val (.long don), .second, .val (.ref b1), .val (.long (own_until lim don)), .second, .unset, .unset, .unset, .unset] [(.long don)])) (fun _ k => XS.lload X4.here hx rfl (hb hby at_134) rfl k) ?_
          refine Done.st (B := T4.setTop (mkF m 137 #[.val (.long x0), .second, .val (.long x1), .second, .val (.int x2), .val (.long lim), .second, .val (.int ((x2 >>> ((3 : Int32) &&& 31)) &&& (3 : Int32))), .val (.long don), .second, .val (.ref b1), .val (.long (own_until lim don)), .second, .unset, .unset, .unset, .unset] [(.long (0 : Int64)), (.long don)])) (fun _ k => XS.lconst X4.here hx rfl (hb hby at_136) k) ?_
          refine Done.st (B := T4.setTop (mkF m 138 #[.val (.long x0), .second, .val (.long x1), .second, .val (.int x2), .val (.long lim), .second, .val (.int ((x2 >>> ((3 : Int32) &&& 31)) &&& (3 : Int32))), .val (.long don), .second, .val (.ref b1), .val (.long (own_until lim don)), .second, .unset, .unset, .unset, .unset] [(.int (lcmpW don (0 : Int64)))])) (fun _ k => XS.lcmp X4.here hx rfl (hb hby at_137) rfl k) ?_
          by_cases hc138 : don = (0 : Int64)
          · refine Done.st (B := T4.setTop (mkF m 141 #[.val (.long x0), .second, .val (.long x1), .second, .val (.int x2), .val (.long lim), .second, .val (.int ((x2 >>> ((3 : Int32) &&& 31)) &&& (3 : Int32))), .val (.long don), .second, .val (.ref b1), .val (.long (own_until lim don)), .second, .unset, .unset, .unset, .unset] [])) (fun _ k => XS.ifNo X4.here hx rfl (hb hby at_138) rfl ((if0 _ _).trans (teq ((lw_eq _ _).mpr hc138)).2) k) ?_
            refine Done.st (B := T4.setTop (mkF m 144 #[.val (.long x0), .second, .val (.long x1), .second, .val (.int x2), .val (.long lim), .second, .val (.int ((x2 >>> ((3 : Int32) &&& 31)) &&& (3 : Int32))), .val (.long don), .second, .val (.ref b1), .val (.long (own_until lim don)), .second, .unset, .unset, .unset, .unset] [(.long (9223372036854775807 : Int64))])) (fun _ k => X4.ldc2Long hx hown (mvT hZ (hw _ (List.mem_of_getElem? (i := 0) rfl))) (g := (mkF m 141 #[.val (.long x0), .second, .val (.long x1), .second, .val (.int x2), .val (.long lim), .second, .val (.int ((x2 >>> ((3 : Int32) &&& 31)) &&& (3 : Int32))), .val (.long don), .second, .val (.ref b1), .val (.long (own_until lim don)), .second, .unset, .unset, .unset, .unset] [])) rfl (hb hby at_141) _ k) ?_
            refine Done.st (B := T4.setTop (mkF m 146 #[.val (.long x0), .second, .val (.long x1), .second, .val (.int x2), .val (.long lim), .second, .val (.int ((x2 >>> ((3 : Int32) &&& 31)) &&& (3 : Int32))), .val (.long don), .second, .val (.ref b1), .val (.long (own_until lim don)), .second, .val (.long (9223372036854775807 : Int64)), .second, .unset, .unset] [])) (fun _ k => XS.lstore X4.here hx rfl (hb hby at_144) rfl (l' := #[.val (.long x0), .second, .val (.long x1), .second, .val (.int x2), .val (.long lim), .second, .val (.int ((x2 >>> ((3 : Int32) &&& 31)) &&& (3 : Int32))), .val (.long don), .second, .val (.ref b1), .val (.long (own_until lim don)), .second, .val (.long (9223372036854775807 : Int64)), .second, .unset, .unset]) rfl k) ?_
            refine Done.st (B := T4.setTop (mkF m 158 #[.val (.long x0), .second, .val (.long x1), .second, .val (.int x2), .val (.long lim), .second, .val (.int ((x2 >>> ((3 : Int32) &&& 31)) &&& (3 : Int32))), .val (.long don), .second, .val (.ref b1), .val (.long (own_until lim don)), .second, .val (.long (9223372036854775807 : Int64)), .second, .unset, .unset] [])) (fun _ k => XS.goto X4.here hx rfl (pc0 := 146) (pc' := 158) rfl (hb hby at_146) (by decide) (by decide) k) ?_
            exact j158 (9223372036854775807 : Int64) (own_ex2 hL hD hc131 hc138)
          · refine Done.st (B := T4.setTop (mkF m 149 #[.val (.long x0), .second, .val (.long x1), .second, .val (.int x2), .val (.long lim), .second, .val (.int ((x2 >>> ((3 : Int32) &&& 31)) &&& (3 : Int32))), .val (.long don), .second, .val (.ref b1), .val (.long (own_until lim don)), .second, .unset, .unset, .unset, .unset] [])) (fun _ k => XS.ifYes X4.here hx rfl (pc0 := 138) (pc' := 149) rfl (hb hby at_138) rfl ((if0 _ _).trans (feq (fun z => hc138 ((lw_eq _ _).mp z))).2) (by decide) (by decide) k) ?_
            refine Done.st (B := T4.setTop (mkF m 151 #[.val (.long x0), .second, .val (.long x1), .second, .val (.int x2), .val (.long lim), .second, .val (.int ((x2 >>> ((3 : Int32) &&& 31)) &&& (3 : Int32))), .val (.long don), .second, .val (.ref b1), .val (.long (own_until lim don)), .second, .unset, .unset, .unset, .unset] [(.long lim)])) (fun _ k => XS.lload X4.here hx rfl (hb hby at_149) rfl k) ?_
            refine Done.st (B := T4.setTop (mkF m 153 #[.val (.long x0), .second, .val (.long x1), .second, .val (.int x2), .val (.long lim), .second, .val (.int ((x2 >>> ((3 : Int32) &&& 31)) &&& (3 : Int32))), .val (.long don), .second, .val (.ref b1), .val (.long (own_until lim don)), .second, .unset, .unset, .unset, .unset] [(.long don), (.long lim)])) (fun _ k => XS.lload X4.here hx rfl (hb hby at_151) rfl k) ?_
            refine Done.st (B := T4.setTop (mkF m 154 #[.val (.long x0), .second, .val (.long x1), .second, .val (.int x2), .val (.long lim), .second, .val (.int ((x2 >>> ((3 : Int32) &&& 31)) &&& (3 : Int32))), .val (.long don), .second, .val (.ref b1), .val (.long (own_until lim don)), .second, .unset, .unset, .unset, .unset] [(.long (lim - don))])) (fun _ k => XS.lsub X4.here hx rfl (hb hby at_153) rfl k) ?_
            refine Done.st (B := T4.setTop (mkF m 155 #[.val (.long x0), .second, .val (.long x1), .second, .val (.int x2), .val (.long lim), .second, .val (.int ((x2 >>> ((3 : Int32) &&& 31)) &&& (3 : Int32))), .val (.long don), .second, .val (.ref b1), .val (.long (own_until lim don)), .second, .unset, .unset, .unset, .unset] [(.long (1 : Int64)), (.long (lim - don))])) (fun _ k => XS.lconst X4.here hx rfl (hb hby at_154) k) ?_
            refine Done.st (B := T4.setTop (mkF m 156 #[.val (.long x0), .second, .val (.long x1), .second, .val (.int x2), .val (.long lim), .second, .val (.int ((x2 >>> ((3 : Int32) &&& 31)) &&& (3 : Int32))), .val (.long don), .second, .val (.ref b1), .val (.long (own_until lim don)), .second, .unset, .unset, .unset, .unset] [(.long ((lim - don) + (1 : Int64)))])) (fun _ k => XS.ladd X4.here hx rfl (hb hby at_155) rfl k) ?_
            refine Done.st (B := T4.setTop (mkF m 158 #[.val (.long x0), .second, .val (.long x1), .second, .val (.int x2), .val (.long lim), .second, .val (.int ((x2 >>> ((3 : Int32) &&& 31)) &&& (3 : Int32))), .val (.long don), .second, .val (.ref b1), .val (.long (own_until lim don)), .second, .val (.long ((lim - don) + (1 : Int64))), .second, .unset, .unset] [])) (fun _ k => XS.lstore X4.here hx rfl (hb hby at_156) rfl (l' := #[.val (.long x0), .second, .val (.long x1), .second, .val (.int x2), .val (.long lim), .second, .val (.int ((x2 >>> ((3 : Int32) &&& 31)) &&& (3 : Int32))), .val (.long don), .second, .val (.ref b1), .val (.long (own_until lim don)), .second, .val (.long ((lim - don) + (1 : Int64))), .second, .unset, .unset]) rfl k) ?_
            exact j158 ((lim - don) + (1 : Int64)) (own_ex3 hL hD hc116 (Or.inr hc138))
        · refine Done.st (B := T4.setTop (mkF m 149 #[.val (.long x0), .second, .val (.long x1), .second, .val (.int x2), .val (.long lim), .second, .val (.int ((x2 >>> ((3 : Int32) &&& 31)) &&& (3 : Int32))), .val (.long don), .second, .val (.ref b1), .val (.long (own_until lim don)), .second, .unset, .unset, .unset, .unset] [])) (fun _ k => XS.ifYes X4.here hx rfl (pc0 := 131) (pc' := 149) rfl (hb hby at_131) rfl ((if0 _ _).trans (feq (fun z => hc131 ((lw_eq _ _).mp z))).2) (by decide) (by decide) k) ?_
          refine Done.st (B := T4.setTop (mkF m 151 #[.val (.long x0), .second, .val (.long x1), .second, .val (.int x2), .val (.long lim), .second, .val (.int ((x2 >>> ((3 : Int32) &&& 31)) &&& (3 : Int32))), .val (.long don), .second, .val (.ref b1), .val (.long (own_until lim don)), .second, .unset, .unset, .unset, .unset] [(.long lim)])) (fun _ k => XS.lload X4.here hx rfl (hb hby at_149) rfl k) ?_
          refine Done.st (B := T4.setTop (mkF m 153 #[.val (.long x0), .second, .val (.long x1), .second, .val (.int x2), .val (.long lim), .second, .val (.int ((x2 >>> ((3 : Int32) &&& 31)) &&& (3 : Int32))), .val (.long don), .second, .val (.ref b1), .val (.long (own_until lim don)), .second, .unset, .unset, .unset, .unset] [(.long don), (.long lim)])) (fun _ k => XS.lload X4.here hx rfl (hb hby at_151) rfl k) ?_
          refine Done.st (B := T4.setTop (mkF m 154 #[.val (.long x0), .second, .val (.long x1), .second, .val (.int x2), .val (.long lim), .second, .val (.int ((x2 >>> ((3 : Int32) &&& 31)) &&& (3 : Int32))), .val (.long don), .second, .val (.ref b1), .val (.long (own_until lim don)), .second, .unset, .unset, .unset, .unset] [(.long (lim - don))])) (fun _ k => XS.lsub X4.here hx rfl (hb hby at_153) rfl k) ?_
          refine Done.st (B := T4.setTop (mkF m 155 #[.val (.long x0), .second, .val (.long x1), .second, .val (.int x2), .val (.long lim), .second, .val (.int ((x2 >>> ((3 : Int32) &&& 31)) &&& (3 : Int32))), .val (.long don), .second, .val (.ref b1), .val (.long (own_until lim don)), .second, .unset, .unset, .unset, .unset] [(.long (1 : Int64)), (.long (lim - don))])) (fun _ k => XS.lconst X4.here hx rfl (hb hby at_154) k) ?_
          refine Done.st (B := T4.setTop (mkF m 156 #[.val (.long x0), .second, .val (.long x1), .second, .val (.int x2), .val (.long lim), .second, .val (.int ((x2 >>> ((3 : Int32) &&& 31)) &&& (3 : Int32))), .val (.long don), .second, .val (.ref b1), .val (.long (own_until lim don)), .second, .unset, .unset, .unset, .unset] [(.long ((lim - don) + (1 : Int64)))])) (fun _ k => XS.ladd X4.here hx rfl (hb hby at_155) rfl k) ?_
          refine Done.st (B := T4.setTop (mkF m 158 #[.val (.long x0), .second, .val (.long x1), .second, .val (.int x2), .val (.long lim), .second, .val (.int ((x2 >>> ((3 : Int32) &&& 31)) &&& (3 : Int32))), .val (.long don), .second, .val (.ref b1), .val (.long (own_until lim don)), .second, .val (.long ((lim - don) + (1 : Int64))), .second, .unset, .unset] [])) (fun _ k => XS.lstore X4.here hx rfl (hb hby at_156) rfl (l' := #[.val (.long x0), .second, .val (.long x1), .second, .val (.int x2), .val (.long lim), .second, .val (.int ((x2 >>> ((3 : Int32) &&& 31)) &&& (3 : Int32))), .val (.long don), .second, .val (.ref b1), .val (.long (own_until lim don)), .second, .val (.long ((lim - don) + (1 : Int64))), .second, .unset, .unset]) rfl k) ?_
          exact j158 ((lim - don) + (1 : Int64)) (own_ex3 hL hD hc116 (Or.inl hc131))
    refine Done.st (B := s₁.setTop (mkF m 29 #[.val (.long x0), .second, .val (.long x1), .second, .val (.int x2), .val (.long lim), .second, .val (.int ((x2 >>> ((3 : Int32) &&& 31)) &&& (3 : Int32))), .unset, .unset, .unset, .unset, .unset, .unset, .unset, .unset, .unset] [(.int ((x2 >>> ((3 : Int32) &&& 31)) &&& (3 : Int32)))])) (fun _ k => XS.iload X0.here hx rfl (hb hby at_27) rfl k) ?_
    by_cases hc29 : ((x2 >>> ((3 : Int32) &&& 31)) &&& (3 : Int32)) = (0 : Int32)
    · refine Done.st (B := s₁.setTop (mkF m 32 #[.val (.long x0), .second, .val (.long x1), .second, .val (.int x2), .val (.long lim), .second, .val (.int ((x2 >>> ((3 : Int32) &&& 31)) &&& (3 : Int32))), .unset, .unset, .unset, .unset, .unset, .unset, .unset, .unset, .unset] [])) (fun _ k => XS.ifNo X0.here hx rfl (hb hby at_29) rfl ((if0 _ _).trans (teq hc29).2) k) ?_
      refine Done.st (B := s₁.setTop (mkF m 33 #[.val (.long x0), .second, .val (.long x1), .second, .val (.int x2), .val (.long lim), .second, .val (.int ((x2 >>> ((3 : Int32) &&& 31)) &&& (3 : Int32))), .unset, .unset, .unset, .unset, .unset, .unset, .unset, .unset, .unset] [(.long x1)])) (fun _ k => XS.lloadN X0.here hx rfl (hb hby at_32) rfl k) ?_
      refine Done.st (B := s₁.setTop (mkF m 36 #[.val (.long x0), .second, .val (.long x1), .second, .val (.int x2), .val (.long lim), .second, .val (.int ((x2 >>> ((3 : Int32) &&& 31)) &&& (3 : Int32))), .unset, .unset, .unset, .unset, .unset, .unset, .unset, .unset, .unset] [(.long (9223372036854775807 : Int64)), (.long x1)])) (fun _ k => X0.ldc2Long hx hown (mvT hZ (hw _ (List.mem_of_getElem? (i := 0) rfl))) (g := (mkF m 33 #[.val (.long x0), .second, .val (.long x1), .second, .val (.int x2), .val (.long lim), .second, .val (.int ((x2 >>> ((3 : Int32) &&& 31)) &&& (3 : Int32))), .unset, .unset, .unset, .unset, .unset, .unset, .unset, .unset, .unset] [(.long x1)])) rfl (hb hby at_33) _ k) ?_
      refine Done.st (B := s₁.setTop (mkF m 37 #[.val (.long x0), .second, .val (.long x1), .second, .val (.int x2), .val (.long lim), .second, .val (.int ((x2 >>> ((3 : Int32) &&& 31)) &&& (3 : Int32))), .unset, .unset, .unset, .unset, .unset, .unset, .unset, .unset, .unset] [(.long (x1 &&& (9223372036854775807 : Int64)))])) (fun _ k => XS.land X0.here hx rfl (hb hby at_36) rfl k) ?_
      refine Done.st (B := s₁.setTop (mkF m 39 #[.val (.long x0), .second, .val (.long x1), .second, .val (.int x2), .val (.long lim), .second, .val (.int ((x2 >>> ((3 : Int32) &&& 31)) &&& (3 : Int32))), .val (.long (x1 &&& (9223372036854775807 : Int64))), .second, .unset, .unset, .unset, .unset, .unset, .unset, .unset] [])) (fun _ k => XS.lstore X0.here hx rfl (hb hby at_37) rfl (l' := #[.val (.long x0), .second, .val (.long x1), .second, .val (.int x2), .val (.long lim), .second, .val (.int ((x2 >>> ((3 : Int32) &&& 31)) &&& (3 : Int32))), .val (.long (x1 &&& (9223372036854775807 : Int64))), .second, .unset, .unset, .unset, .unset, .unset, .unset, .unset]) rfl k) ?_
      refine Done.st (B := s₁.setTop (mkF m 86 #[.val (.long x0), .second, .val (.long x1), .second, .val (.int x2), .val (.long lim), .second, .val (.int ((x2 >>> ((3 : Int32) &&& 31)) &&& (3 : Int32))), .val (.long (x1 &&& (9223372036854775807 : Int64))), .second, .unset, .unset, .unset, .unset, .unset, .unset, .unset] [])) (fun _ k => XS.goto X0.here hx rfl (pc0 := 39) (pc' := 86) rfl (hb hby at_39) (by decide) (by decide) k) ?_
      exact j86 (x1 &&& (9223372036854775807 : Int64)) (own_m64 _)
    · refine Done.st (B := s₁.setTop (mkF m 42 #[.val (.long x0), .second, .val (.long x1), .second, .val (.int x2), .val (.long lim), .second, .val (.int ((x2 >>> ((3 : Int32) &&& 31)) &&& (3 : Int32))), .unset, .unset, .unset, .unset, .unset, .unset, .unset, .unset, .unset] [])) (fun _ k => XS.ifYes X0.here hx rfl (pc0 := 29) (pc' := 42) rfl (hb hby at_29) rfl ((if0 _ _).trans (feq hc29).2) (by decide) (by decide) k) ?_
      refine Done.st (B := s₁.setTop (mkF m 44 #[.val (.long x0), .second, .val (.long x1), .second, .val (.int x2), .val (.long lim), .second, .val (.int ((x2 >>> ((3 : Int32) &&& 31)) &&& (3 : Int32))), .unset, .unset, .unset, .unset, .unset, .unset, .unset, .unset, .unset] [(.int ((x2 >>> ((3 : Int32) &&& 31)) &&& (3 : Int32)))])) (fun _ k => XS.iload X0.here hx rfl (hb hby at_42) rfl k) ?_
      refine Done.st (B := s₁.setTop (mkF m 45 #[.val (.long x0), .second, .val (.long x1), .second, .val (.int x2), .val (.long lim), .second, .val (.int ((x2 >>> ((3 : Int32) &&& 31)) &&& (3 : Int32))), .unset, .unset, .unset, .unset, .unset, .unset, .unset, .unset, .unset] [(.int (1 : Int32)), (.int ((x2 >>> ((3 : Int32) &&& 31)) &&& (3 : Int32)))])) (fun _ k => XS.iconst X0.here hx rfl (hb hby at_44) k) ?_
      by_cases hc45 : ((x2 >>> ((3 : Int32) &&& 31)) &&& (3 : Int32)) = (1 : Int32)
      · refine Done.st (B := s₁.setTop (mkF m 48 #[.val (.long x0), .second, .val (.long x1), .second, .val (.int x2), .val (.long lim), .second, .val (.int ((x2 >>> ((3 : Int32) &&& 31)) &&& (3 : Int32))), .unset, .unset, .unset, .unset, .unset, .unset, .unset, .unset, .unset] [])) (fun _ k => XS.icmpNo X0.here hx rfl (hb hby at_45) rfl (teq hc45).2 k) ?_
        refine Done.st (B := s₁.setTop (mkF m 50 #[.val (.long x0), .second, .val (.long x1), .second, .val (.int x2), .val (.long lim), .second, .val (.int ((x2 >>> ((3 : Int32) &&& 31)) &&& (3 : Int32))), .unset, .unset, .unset, .unset, .unset, .unset, .unset, .unset, .unset] [(.long lim)])) (fun _ k => XS.lload X0.here hx rfl (hb hby at_48) rfl k) ?_
        refine Done.st (B := s₁.setTop (mkF m 52 #[.val (.long x0), .second, .val (.long x1), .second, .val (.int x2), .val (.long lim), .second, .val (.int ((x2 >>> ((3 : Int32) &&& 31)) &&& (3 : Int32))), .val (.long lim), .second, .unset, .unset, .unset, .unset, .unset, .unset, .unset] [])) (fun _ k => XS.lstore X0.here hx rfl (hb hby at_50) rfl (l' := #[.val (.long x0), .second, .val (.long x1), .second, .val (.int x2), .val (.long lim), .second, .val (.int ((x2 >>> ((3 : Int32) &&& 31)) &&& (3 : Int32))), .val (.long lim), .second, .unset, .unset, .unset, .unset, .unset, .unset, .unset]) rfl k) ?_
        refine Done.st (B := s₁.setTop (mkF m 86 #[.val (.long x0), .second, .val (.long x1), .second, .val (.int x2), .val (.long lim), .second, .val (.int ((x2 >>> ((3 : Int32) &&& 31)) &&& (3 : Int32))), .val (.long lim), .second, .unset, .unset, .unset, .unset, .unset, .unset, .unset] [])) (fun _ k => XS.goto X0.here hx rfl (pc0 := 52) (pc' := 86) rfl (hb hby at_52) (by decide) (by decide) k) ?_
        exact j86 lim hL
      · refine Done.st (B := s₁.setTop (mkF m 55 #[.val (.long x0), .second, .val (.long x1), .second, .val (.int x2), .val (.long lim), .second, .val (.int ((x2 >>> ((3 : Int32) &&& 31)) &&& (3 : Int32))), .unset, .unset, .unset, .unset, .unset, .unset, .unset, .unset, .unset] [])) (fun _ k => XS.icmpYes X0.here hx rfl (pc0 := 45) (pc' := 55) rfl (hb hby at_45) rfl (feq hc45).2 (by decide) (by decide) k) ?_
        refine Done.st (B := s₁.setTop (mkF m 57 #[.val (.long x0), .second, .val (.long x1), .second, .val (.int x2), .val (.long lim), .second, .val (.int ((x2 >>> ((3 : Int32) &&& 31)) &&& (3 : Int32))), .unset, .unset, .unset, .unset, .unset, .unset, .unset, .unset, .unset] [(.int ((x2 >>> ((3 : Int32) &&& 31)) &&& (3 : Int32)))])) (fun _ k => XS.iload X0.here hx rfl (hb hby at_55) rfl k) ?_
        refine Done.st (B := s₁.setTop (mkF m 58 #[.val (.long x0), .second, .val (.long x1), .second, .val (.int x2), .val (.long lim), .second, .val (.int ((x2 >>> ((3 : Int32) &&& 31)) &&& (3 : Int32))), .unset, .unset, .unset, .unset, .unset, .unset, .unset, .unset, .unset] [(.int (2 : Int32)), (.int ((x2 >>> ((3 : Int32) &&& 31)) &&& (3 : Int32)))])) (fun _ k => XS.iconst X0.here hx rfl (hb hby at_57) k) ?_
        by_cases hc58 : ((x2 >>> ((3 : Int32) &&& 31)) &&& (3 : Int32)) = (2 : Int32)
        · refine Done.st (B := s₁.setTop (mkF m 61 #[.val (.long x0), .second, .val (.long x1), .second, .val (.int x2), .val (.long lim), .second, .val (.int ((x2 >>> ((3 : Int32) &&& 31)) &&& (3 : Int32))), .unset, .unset, .unset, .unset, .unset, .unset, .unset, .unset, .unset] [])) (fun _ k => XS.icmpNo X0.here hx rfl (hb hby at_58) rfl (teq hc58).2 k) ?_
          refine Done.st (B := s₁.setTop (mkF m 63 #[.val (.long x0), .second, .val (.long x1), .second, .val (.int x2), .val (.long lim), .second, .val (.int ((x2 >>> ((3 : Int32) &&& 31)) &&& (3 : Int32))), .unset, .unset, .unset, .unset, .unset, .unset, .unset, .unset, .unset] [(.long lim)])) (fun _ k => XS.lload X0.here hx rfl (hb hby at_61) rfl k) ?_
          refine Done.st (B := s₁.setTop (mkF m 66 #[.val (.long x0), .second, .val (.long x1), .second, .val (.int x2), .val (.long lim), .second, .val (.int ((x2 >>> ((3 : Int32) &&& 31)) &&& (3 : Int32))), .unset, .unset, .unset, .unset, .unset, .unset, .unset, .unset, .unset] [(.long (9223372036854775807 : Int64)), (.long lim)])) (fun _ k => X0.ldc2Long hx hown (mvT hZ (hw _ (List.mem_of_getElem? (i := 0) rfl))) (g := (mkF m 63 #[.val (.long x0), .second, .val (.long x1), .second, .val (.int x2), .val (.long lim), .second, .val (.int ((x2 >>> ((3 : Int32) &&& 31)) &&& (3 : Int32))), .unset, .unset, .unset, .unset, .unset, .unset, .unset, .unset, .unset] [(.long lim)])) rfl (hb hby at_63) _ k) ?_
          refine Done.st (B := s₁.setTop (mkF m 67 #[.val (.long x0), .second, .val (.long x1), .second, .val (.int x2), .val (.long lim), .second, .val (.int ((x2 >>> ((3 : Int32) &&& 31)) &&& (3 : Int32))), .unset, .unset, .unset, .unset, .unset, .unset, .unset, .unset, .unset] [(.int (lcmpW lim (9223372036854775807 : Int64)))])) (fun _ k => XS.lcmp X0.here hx rfl (hb hby at_66) rfl k) ?_
          by_cases hc67 : lim < (9223372036854775807 : Int64)
          · refine Done.st (B := s₁.setTop (mkF m 70 #[.val (.long x0), .second, .val (.long x1), .second, .val (.int x2), .val (.long lim), .second, .val (.int ((x2 >>> ((3 : Int32) &&& 31)) &&& (3 : Int32))), .unset, .unset, .unset, .unset, .unset, .unset, .unset, .unset, .unset] [])) (fun _ k => XS.ifNo X0.here hx rfl (hb hby at_67) rfl ((if0 _ _).trans (tlt ((lw_lt _ _).mpr hc67)).2.1) k) ?_
            refine Done.st (B := s₁.setTop (mkF m 72 #[.val (.long x0), .second, .val (.long x1), .second, .val (.int x2), .val (.long lim), .second, .val (.int ((x2 >>> ((3 : Int32) &&& 31)) &&& (3 : Int32))), .unset, .unset, .unset, .unset, .unset, .unset, .unset, .unset, .unset] [(.long lim)])) (fun _ k => XS.lload X0.here hx rfl (hb hby at_70) rfl k) ?_
            refine Done.st (B := s₁.setTop (mkF m 73 #[.val (.long x0), .second, .val (.long x1), .second, .val (.int x2), .val (.long lim), .second, .val (.int ((x2 >>> ((3 : Int32) &&& 31)) &&& (3 : Int32))), .unset, .unset, .unset, .unset, .unset, .unset, .unset, .unset, .unset] [(.long (1 : Int64)), (.long lim)])) (fun _ k => XS.lconst X0.here hx rfl (hb hby at_72) k) ?_
            refine Done.st (B := s₁.setTop (mkF m 74 #[.val (.long x0), .second, .val (.long x1), .second, .val (.int x2), .val (.long lim), .second, .val (.int ((x2 >>> ((3 : Int32) &&& 31)) &&& (3 : Int32))), .unset, .unset, .unset, .unset, .unset, .unset, .unset, .unset, .unset] [(.long (lim + (1 : Int64)))])) (fun _ k => XS.ladd X0.here hx rfl (hb hby at_73) rfl k) ?_
            refine Done.st (B := s₁.setTop (mkF m 78 #[.val (.long x0), .second, .val (.long x1), .second, .val (.int x2), .val (.long lim), .second, .val (.int ((x2 >>> ((3 : Int32) &&& 31)) &&& (3 : Int32))), .unset, .unset, .unset, .unset, .unset, .unset, .unset, .unset, .unset] [(.long (lim + (1 : Int64)))])) (fun _ k => XS.goto X0.here hx rfl (pc0 := 74) (pc' := 78) rfl (hb hby at_74) (by decide) (by decide) k) ?_
            refine Done.st (B := s₁.setTop (mkF m 80 #[.val (.long x0), .second, .val (.long x1), .second, .val (.int x2), .val (.long lim), .second, .val (.int ((x2 >>> ((3 : Int32) &&& 31)) &&& (3 : Int32))), .val (.long (lim + (1 : Int64))), .second, .unset, .unset, .unset, .unset, .unset, .unset, .unset] [])) (fun _ k => XS.lstore X0.here hx rfl (hb hby at_78) rfl (l' := #[.val (.long x0), .second, .val (.long x1), .second, .val (.int x2), .val (.long lim), .second, .val (.int ((x2 >>> ((3 : Int32) &&& 31)) &&& (3 : Int32))), .val (.long (lim + (1 : Int64))), .second, .unset, .unset, .unset, .unset, .unset, .unset, .unset]) rfl k) ?_
            refine Done.st (B := s₁.setTop (mkF m 86 #[.val (.long x0), .second, .val (.long x1), .second, .val (.int x2), .val (.long lim), .second, .val (.int ((x2 >>> ((3 : Int32) &&& 31)) &&& (3 : Int32))), .val (.long (lim + (1 : Int64))), .second, .unset, .unset, .unset, .unset, .unset, .unset, .unset] [])) (fun _ k => XS.goto X0.here hx rfl (pc0 := 80) (pc' := 86) rfl (hb hby at_80) (by decide) (by decide) k) ?_
            exact j86 (lim + (1 : Int64)) (own_p1 hL hc67)
          · refine Done.st (B := s₁.setTop (mkF m 77 #[.val (.long x0), .second, .val (.long x1), .second, .val (.int x2), .val (.long lim), .second, .val (.int ((x2 >>> ((3 : Int32) &&& 31)) &&& (3 : Int32))), .unset, .unset, .unset, .unset, .unset, .unset, .unset, .unset, .unset] [])) (fun _ k => XS.ifYes X0.here hx rfl (pc0 := 67) (pc' := 77) rfl (hb hby at_67) rfl ((if0 _ _).trans (flt (fun z => hc67 ((lw_lt _ _).mp z))).2.1) (by decide) (by decide) k) ?_
            refine Done.st (B := s₁.setTop (mkF m 78 #[.val (.long x0), .second, .val (.long x1), .second, .val (.int x2), .val (.long lim), .second, .val (.int ((x2 >>> ((3 : Int32) &&& 31)) &&& (3 : Int32))), .unset, .unset, .unset, .unset, .unset, .unset, .unset, .unset, .unset] [(.long (0 : Int64))])) (fun _ k => XS.lconst X0.here hx rfl (hb hby at_77) k) ?_
            refine Done.st (B := s₁.setTop (mkF m 80 #[.val (.long x0), .second, .val (.long x1), .second, .val (.int x2), .val (.long lim), .second, .val (.int ((x2 >>> ((3 : Int32) &&& 31)) &&& (3 : Int32))), .val (.long (0 : Int64)), .second, .unset, .unset, .unset, .unset, .unset, .unset, .unset] [])) (fun _ k => XS.lstore X0.here hx rfl (hb hby at_78) rfl (l' := #[.val (.long x0), .second, .val (.long x1), .second, .val (.int x2), .val (.long lim), .second, .val (.int ((x2 >>> ((3 : Int32) &&& 31)) &&& (3 : Int32))), .val (.long (0 : Int64)), .second, .unset, .unset, .unset, .unset, .unset, .unset, .unset]) rfl k) ?_
            refine Done.st (B := s₁.setTop (mkF m 86 #[.val (.long x0), .second, .val (.long x1), .second, .val (.int x2), .val (.long lim), .second, .val (.int ((x2 >>> ((3 : Int32) &&& 31)) &&& (3 : Int32))), .val (.long (0 : Int64)), .second, .unset, .unset, .unset, .unset, .unset, .unset, .unset] [])) (fun _ k => XS.goto X0.here hx rfl (pc0 := 80) (pc' := 86) rfl (hb hby at_80) (by decide) (by decide) k) ?_
            exact j86 (0 : Int64) (Int.le_refl _)
        · refine Done.st (B := s₁.setTop (mkF m 83 #[.val (.long x0), .second, .val (.long x1), .second, .val (.int x2), .val (.long lim), .second, .val (.int ((x2 >>> ((3 : Int32) &&& 31)) &&& (3 : Int32))), .unset, .unset, .unset, .unset, .unset, .unset, .unset, .unset, .unset] [])) (fun _ k => XS.icmpYes X0.here hx rfl (pc0 := 58) (pc' := 83) rfl (hb hby at_58) rfl (feq hc58).2 (by decide) (by decide) k) ?_
          refine Done.st (B := s₁.setTop (mkF m 84 #[.val (.long x0), .second, .val (.long x1), .second, .val (.int x2), .val (.long lim), .second, .val (.int ((x2 >>> ((3 : Int32) &&& 31)) &&& (3 : Int32))), .unset, .unset, .unset, .unset, .unset, .unset, .unset, .unset, .unset] [(.long (0 : Int64))])) (fun _ k => XS.lconst X0.here hx rfl (hb hby at_83) k) ?_
          refine Done.st (B := s₁.setTop (mkF m 86 #[.val (.long x0), .second, .val (.long x1), .second, .val (.int x2), .val (.long lim), .second, .val (.int ((x2 >>> ((3 : Int32) &&& 31)) &&& (3 : Int32))), .val (.long (0 : Int64)), .second, .unset, .unset, .unset, .unset, .unset, .unset, .unset] [])) (fun _ k => XS.lstore X0.here hx rfl (hb hby at_84) rfl (l' := #[.val (.long x0), .second, .val (.long x1), .second, .val (.int x2), .val (.long lim), .second, .val (.int ((x2 >>> ((3 : Int32) &&& 31)) &&& (3 : Int32))), .val (.long (0 : Int64)), .second, .unset, .unset, .unset, .unset, .unset, .unset, .unset]) rfl k) ?_
          exact j86 (0 : Int64) (Int.le_refl _)
  refine Done.st (B := s₁.setTop (mkF m 9 #[.val (.long x0), .second, .val (.long x1), .second, .val (.int x2), .val (.long (x0 &&& (9223372036854775807 : Int64))), .second, .unset, .unset, .unset, .unset, .unset, .unset, .unset, .unset, .unset, .unset] [(.int x2)])) (fun _ k => XS.iload X0.here hx rfl (hb hby at_7) rfl k) ?_
  refine Done.st (B := s₁.setTop (mkF m 10 #[.val (.long x0), .second, .val (.long x1), .second, .val (.int x2), .val (.long (x0 &&& (9223372036854775807 : Int64))), .second, .unset, .unset, .unset, .unset, .unset, .unset, .unset, .unset, .unset, .unset] [(.int (4 : Int32)), (.int x2)])) (fun _ k => XS.iconst X0.here hx rfl (hb hby at_9) k) ?_
  refine Done.st (B := s₁.setTop (mkF m 11 #[.val (.long x0), .second, .val (.long x1), .second, .val (.int x2), .val (.long (x0 &&& (9223372036854775807 : Int64))), .second, .unset, .unset, .unset, .unset, .unset, .unset, .unset, .unset, .unset, .unset] [(.int (x2 &&& (4 : Int32)))])) (fun _ k => XS.iand X0.here hx rfl (hb hby at_10) rfl k) ?_
  by_cases hc11 : (x2 &&& (4 : Int32)) = (0 : Int32)
  · refine Done.st (B := s₁.setTop (mkF m 19 #[.val (.long x0), .second, .val (.long x1), .second, .val (.int x2), .val (.long (x0 &&& (9223372036854775807 : Int64))), .second, .unset, .unset, .unset, .unset, .unset, .unset, .unset, .unset, .unset, .unset] [])) (fun _ k => XS.ifYes X0.here hx rfl (pc0 := 11) (pc' := 19) rfl (hb hby at_11) rfl ((if0 _ _).trans (teq hc11).1) (by decide) (by decide) k) ?_
    exact j19 (x0 &&& (9223372036854775807 : Int64)) (own_m64 _)
  · refine Done.st (B := s₁.setTop (mkF m 14 #[.val (.long x0), .second, .val (.long x1), .second, .val (.int x2), .val (.long (x0 &&& (9223372036854775807 : Int64))), .second, .unset, .unset, .unset, .unset, .unset, .unset, .unset, .unset, .unset, .unset] [])) (fun _ k => XS.ifNo X0.here hx rfl (hb hby at_11) rfl ((if0 _ _).trans (feq hc11).1) k) ?_
    refine Done.st (B := s₁.setTop (mkF m 17 #[.val (.long x0), .second, .val (.long x1), .second, .val (.int x2), .val (.long (x0 &&& (9223372036854775807 : Int64))), .second, .unset, .unset, .unset, .unset, .unset, .unset, .unset, .unset, .unset, .unset] [(.long (9223372036854775807 : Int64))])) (fun _ k => X0.ldc2Long hx hown (mvT hZ (hw _ (List.mem_of_getElem? (i := 0) rfl))) (g := (mkF m 14 #[.val (.long x0), .second, .val (.long x1), .second, .val (.int x2), .val (.long (x0 &&& (9223372036854775807 : Int64))), .second, .unset, .unset, .unset, .unset, .unset, .unset, .unset, .unset, .unset, .unset] [])) rfl (hb hby at_14) _ k) ?_
    refine Done.st (B := s₁.setTop (mkF m 19 #[.val (.long x0), .second, .val (.long x1), .second, .val (.int x2), .val (.long (9223372036854775807 : Int64)), .second, .unset, .unset, .unset, .unset, .unset, .unset, .unset, .unset, .unset, .unset] [])) (fun _ k => XS.lstore X0.here hx rfl (hb hby at_17) rfl (l' := #[.val (.long x0), .second, .val (.long x1), .second, .val (.int x2), .val (.long (9223372036854775807 : Int64)), .second, .unset, .unset, .unset, .unset, .unset, .unset, .unset, .unset, .unset, .unset]) rfl k) ?_
    exact j19 (9223372036854775807 : Int64) (by decide)
set_option maxRecDepth 65536 in
set_option maxHeartbeats 40000000 in
theorem comes_1 {Post : Tables → Env → Array Value → State → Outcome → State → Prop} (hpost : ∀ tb e args s v u, (limb_1_1.after args s (.returned v) u = true ∧ limb_1_2.after args s (.returned v) u = true ∧ True) → FrameEnd s (.returned v) u (Jvm.fieldLocs frame_1_writes args s ++ Jvm.arrayLocs frame_1_arrays args s ++ Jvm.staticLocs frame_1_statics s) 16 128 → Post tb e args s (.returned v) u) :
    ArmFor flags0 classFile x code maxLocals ret World_1 tables_1 room_1 Calls_1 rest_1 Pre_1 Post := by
  intro l hfl _ _ p e ha hc hk s m args below hf hA hF happ hP
  obtain ⟨hcalls, hrest, hpre⟩ := hP
  obtain ⟨-, -, -, hnamed, -, -, -, hat⟩ := (Spec.applies_iff hf).mp happ
  obtain ⟨hg, hn⟩ := and_e (Cond.before_iff.mp (show (Jvm.Cond.and given_1 narrow_1).before args s = true from hpre))
  obtain ⟨g1, g2⟩ := and_e hg
  obtain ⟨g3, g4⟩ := and_e g2
  obtain ⟨g5, g6⟩ := and_e g4
  obtain ⟨w0, w1, w2, rfl⟩ : ∃ w0 w1 w2 : Value, args = #[w0, w1, w2] := by
    have hs : args.size = 3 := by simpa [Cond.value, given_1] using g1
    obtain ⟨L⟩ := args
    match L, hs with
    | [w0, w1, w2], _ => exact ⟨w0, w1, w2, rfl⟩
  have hw := fun d (hd : d ∈ tables_1) => atoms_spec (ws := Jvm.Cond.code x code maxLocals ret :: tables_1) hat d (List.mem_cons_of_mem _ hd)
  have hfit : Fit s := fun {y c} hc i hi => by
    obtain ⟨ha, rfl⟩ := Array.getElem?_eq_some_iff.mp hc
    have q := List.all_eq_true.mp ((Array.all_eq_true_iff_forall_mem.mp hF) _ (Array.getElem_mem ha)) i (List.mem_range.mpr hi)
    simpa [Array.getElem?_eq_getElem hi] using q
  obtain ⟨i0, ei0⟩ := isL_v g3
  obtain rfl : w0 = (.long i0) := Option.some.inj ei0
  obtain ⟨i1, ei1⟩ := isL_v g5
  obtain rfl : w1 = (.long i1) := Option.some.inj ei1
  obtain ⟨i2, ei2⟩ := is_v g6
  obtain rfl : w2 = (.int i2) := Option.some.inj ei2
  obtain ⟨n, o, h1, h2, h3, _, L, rfl, ⟨rfl, N⟩, hq⟩ := rm0 l s _ hw tables_1 i0 i1 i2 s.heap s.heap.size (Nat.le_refl _)  p e ha hc hk s m _ below hf ((Spec.applies_iff_loose hf).mp happ).1 ⟨rfl, State.Warmed39.refl s, rfl⟩ trivial
  refine ⟨n, _, h1, h2, h3, hpost _ _ _ _ _ _ ⟨Cond.after_iff.mpr rfl, Cond.after_iff.mpr (eq_i res_at (Term.int_eval (1)) rfl), trivial⟩ ⟨hq.1, hq.2.1, (hq.2.2.sift fun y hy => Or.inr (N y hy)).mono (by decide) (by decide)⟩⟩
theorem main_1_1 : Claimed_1_1 := comes_1 fun _ _ _ _ _ _ h hF => ⟨h.1, hF⟩
theorem main_1_2 : Claimed_1_2 := comes_1 fun _ _ _ _ _ _ h hF => ⟨h.2.1, hF⟩
end Jvm.Pilot.@@N@@
namespace Jvm.Pilot.@@N@@
open Jvm Jvm.ClassFile Sem Op Lib Jvm.Free Jvm.Stand Jvm.Pilot.@@N@@.Jvm.D
/-! MADE BY PROGRAM (witnessworld.py) out of the Statement's table words and the real class files: 9 classes; the members and pool entries that the words name. The judged class is class 1, her method 1. -/
namespace start1
open Jvm.ClassFile
def u (s : String) : CpInfo := .utf8 (stringToUtf16 s)
/-- a pool by its gaps: so many unusable entries, then the entry; so many at the end -/
def gap : Nat → List CpInfo → List CpInfo
  | 0, r => r
  | n + 1, r => .unusable :: gap n r
def poolList (es : List (Nat × CpInfo)) (last : Nat) : List CpInfo := es.foldr (fun e r => gap e.1 (e.2 :: r)) (gap last [])
def pool (es : List (Nat × CpInfo)) (last : Nat) : Array CpInfo := ⟨poolList es last⟩
def fileOf (pool : Array CpInfo) (this : Nat) (attrs : Array Attribute := #[]) (ms : Array MethodInfo := #[]) (fl : Nat := 33) (sup : Nat := 0) (ifs : Array Nat := #[]) (fds : Array FieldInfo := #[]) : ClassFile where
  minorVersion := 0
  majorVersion := 65
  constantPool := pool
  accessFlags := fl
  thisClass := this
  superClass := sup
  interfaces := ifs
  fields := fds
  methods := ms
  attributes := attrs
def plain (name : String) (sup : Option ClassId) : Class where
  name := name
  kind := .ordinary
  loader := none
  accessFlags := 33
  super := sup
  interfaces := #[]
  cf := none
  fields := #[]
  methods := #[]
  instanceTypes := #[]
  staticTypes := #[]
  resolved := #[]
  callSites := []
  init := .initialized
  statics := none
  mirror := none

def pool0 : Array CpInfo := pool [(5, u "<init>"), (0, u "()V"), (1, .class_ 10), (1, u "java/lang/Object")] 113

def k0c0 : Code := { maxStack := 0, maxLocals := 1, code := object_method_1_code, exceptionTable := #[], attributes := #[] }
def k0m0 : Method := { name := "<init>", desc := "()V", sig := { parameters := [], returnType := none }, accessFlags := 1, code := some k0c0 }
/-- java/lang/Object -/
def k0 : Class := { plain "java/lang/Object" none with
  accessFlags := 33
  interfaces := #[]
  cf := some (fileOf pool0 8 #[] #[{ accessFlags := 1, nameIndex := 5, descriptorIndex := 6, attributes := #[] }] 33 0 #[] #[])
  fields := #[]
  methods := #[k0m0]
  instanceTypes := #[]
  staticTypes := #[]
  resolved := Array.replicate 124 none
  statics := none }

def pool1 : Array CpInfo := pool [(2, .class_ 4), (1, u "java/lang/Object"), (0, u "<init>"), (0, u "()V"), (2, .long 9223372036854775807), (1, .class_ 12), (0, u "com/example/percurso/percurso/completeness/Work"), (0, .methodref 11 14), (0, .nameAndType 5 15), (0, u "(J)V"), (0, .methodref 11 17), (0, .nameAndType 18 15), (0, u "add"), (0, .methodref 11 20), (0, .nameAndType 21 22), (0, u "untilSpent"), (0, u "()J"), (0, .methodref 11 24), (0, .nameAndType 25 26), (0, u "spent"), (0, u "()Z"), (0, .methodref 11 28), (0, .nameAndType 29 30), (0, u "copy"), (0, u "()Lcom/example/percurso/percurso/completeness/Work;"), (0, .class_ 32), (0, u "com/example/percurso/percurso/completeness/WorkUntilSpentPinLaw"), (2, u "law"), (0, u "(JJI)Z")] 3

def k1m0 : Method := { name := "<init>", desc := "()V", sig := { parameters := [], returnType := none }, accessFlags := 2, code := none }
def k1c1 : Code := { maxStack := 5, maxLocals := 17, code := code, exceptionTable := #[], attributes := #[] }
def k1m1 : Method := { name := "law", desc := "(JJI)Z", sig := { parameters := [.long, .long, .int], returnType := some .boolean }, accessFlags := 9, code := some k1c1 }
/-- com/example/percurso/percurso/completeness/WorkUntilSpentPinLaw -/
def k1 : Class := { plain "com/example/percurso/percurso/completeness/WorkUntilSpentPinLaw" (some 0) with
  accessFlags := 49
  interfaces := #[]
  cf := some (fileOf pool1 31 #[] #[{ accessFlags := 2, nameIndex := 5, descriptorIndex := 6, attributes := #[] }, { accessFlags := 9, nameIndex := 35, descriptorIndex := 36, attributes := #[] }] 49 2 #[] #[])
  fields := #[]
  methods := #[k1m0, k1m1]
  instanceTypes := #[]
  staticTypes := #[]
  resolved := Array.replicate 40 none
  statics := none }

def pool2 : Array CpInfo := pool [(1, .methodref 2 3), (0, .class_ 4), (0, .nameAndType 5 6), (0, u "java/lang/Object"), (0, u "<init>"), (0, u "()V"), (0, .fieldref 8 9), (0, .class_ 10), (0, .nameAndType 11 12), (0, u "com/example/percurso/percurso/completeness/Work"), (0, u "limit"), (0, u "J"), (0, .fieldref 8 14), (0, .nameAndType 15 12), (0, u "done"), (2, .long 9223372036854775807), (7, .methodref 8 27), (0, .nameAndType 5 28), (0, u "(J)V"), (2, u "add"), (1, u "copy"), (0, u "()Lcom/example/percurso/percurso/completeness/Work;"), (2, u "()J"), (0, u "untilSpent"), (1, u "spent"), (0, u "()Z")] 2

def k2c0 : Code := { maxStack := 3, maxLocals := 3, code := prog_81_method_1_code, exceptionTable := #[], attributes := #[] }
def k2m0 : Method := { name := "<init>", desc := "(J)V", sig := { parameters := [.long], returnType := none }, accessFlags := 0, code := some k2c0 }
def k2c1 : Code := { maxStack := 5, maxLocals := 3, code := prog_81_method_2_code, exceptionTable := #[], attributes := #[] }
def k2m1 : Method := { name := "add", desc := "(J)V", sig := { parameters := [.long], returnType := none }, accessFlags := 0, code := some k2c1 }
def k2c2 : Code := { maxStack := 4, maxLocals := 2, code := prog_81_method_4_code, exceptionTable := #[], attributes := #[] }
def k2m2 : Method := { name := "copy", desc := "()Lcom/example/percurso/percurso/completeness/Work;", sig := { parameters := [], returnType := some (.object "com/example/percurso/percurso/completeness/Work") }, accessFlags := 0, code := some k2c2 }
def k2c3 : Code := { maxStack := 4, maxLocals := 5, code := prog_81_method_7_code, exceptionTable := #[], attributes := #[] }
def k2m3 : Method := { name := "untilSpent", desc := "()J", sig := { parameters := [], returnType := some .long }, accessFlags := 0, code := some k2c3 }
def k2c4 : Code := { maxStack := 4, maxLocals := 1, code := prog_81_method_8_code, exceptionTable := #[], attributes := #[] }
def k2m4 : Method := { name := "spent", desc := "()Z", sig := { parameters := [], returnType := some .boolean }, accessFlags := 0, code := some k2c4 }
/-- com/example/percurso/percurso/completeness/Work -/
def k2 : Class := { plain "com/example/percurso/percurso/completeness/Work" (some 0) with
  accessFlags := 48
  interfaces := #[]
  cf := some (fileOf pool2 8 #[] #[{ accessFlags := 0, nameIndex := 5, descriptorIndex := 28, attributes := #[] }, { accessFlags := 0, nameIndex := 31, descriptorIndex := 28, attributes := #[] }, { accessFlags := 0, nameIndex := 33, descriptorIndex := 34, attributes := #[] }, { accessFlags := 0, nameIndex := 38, descriptorIndex := 37, attributes := #[] }, { accessFlags := 0, nameIndex := 40, descriptorIndex := 41, attributes := #[] }] 48 2 #[] #[{ accessFlags := 2, nameIndex := 11, descriptorIndex := 12, attributes := #[] }, { accessFlags := 2, nameIndex := 15, descriptorIndex := 12, attributes := #[] }])
  fields := #[{ name := "limit", type := .long, accessFlags := 2, slot := 0, constantValue := 0 }, { name := "done", type := .long, accessFlags := 2, slot := 1, constantValue := 0 }]
  methods := #[k2m0, k2m1, k2m2, k2m3, k2m4]
  instanceTypes := #[.long, .long]
  staticTypes := #[]
  resolved := Array.replicate 44 none
  statics := none }

def pool3 : Array CpInfo := pool [(1, u "java/lang/Cloneable"), (0, .class_ 1), (0, u "java/lang/Object"), (0, .class_ 3)] 3

/-- java/lang/Cloneable -/
def k3 : Class := { plain "java/lang/Cloneable" (some 0) with
  accessFlags := 1537
  interfaces := #[]
  cf := some (fileOf pool3 2 #[] #[] 1537 4 #[] #[])
  fields := #[]
  methods := #[]
  instanceTypes := #[]
  staticTypes := #[]
  resolved := Array.replicate 8 none
  statics := none }

def pool4 : Array CpInfo := pool [(1, u "java/io/Serializable"), (0, .class_ 1), (0, u "java/lang/Object"), (0, .class_ 3)] 3

/-- java/io/Serializable -/
def k4 : Class := { plain "java/io/Serializable" (some 0) with
  accessFlags := 1537
  interfaces := #[]
  cf := some (fileOf pool4 2 #[] #[] 1537 4 #[] #[])
  fields := #[]
  methods := #[]
  instanceTypes := #[]
  staticTypes := #[]
  resolved := Array.replicate 8 none
  statics := none }

/-- the primitive byte -/
def k5 : Class := { plain "byte" none with kind := .primitive 'B', accessFlags := 0x411 }
/-- [B -/
def k6 : Class := { plain "[B" (some 0) with kind := .array 5 .byte, interfaces := #[3, 4], accessFlags := 1041 }

/-- the primitive int -/
def k7 : Class := { plain "int" none with kind := .primitive 'I', accessFlags := 0x411 }
/-- [I -/
def k8 : Class := { plain "[I" (some 0) with kind := .array 7 .int, interfaces := #[3, 4], accessFlags := 1041 }

def heap : Heap := #[]
def classes : Array Class := #[k0, k1, k2, k3, k4, k5, k6, k7, k8]
def interned : List (Array UInt16 × Addr) := []
def slotsUsed : Nat := 0
def theMethod : MethodId := ⟨1, 1⟩
def args0 : Array Value := #[.long 5, .long 1, .int 2]
def aboutOver (below : List Frame) : State where
  vm := { classes := classes, interned := interned.toArray }
  heap := heap
  slotsUsed := slotsUsed
  threads := #[{ frames := .invoking theMethod args0 :: below }]
def below0 : List Frame := [.native { method := ⟨0, 0⟩, args := #[] }]
def about1 : State := aboutOver below0
def p0 : Program := .bare "" "" ""
def e0 : Env := launch0.env 0 0 0
theorem w_frames : about1.frames = Frame.invoking theMethod args0 :: below0 := rfl
set_option maxRecDepth 65536 in
theorem w_args : argsFit about1.vm theMethod args0 = true := by decide +kernel
set_option maxRecDepth 65536 in
theorem w_heap : heapFits about1 = true := by decide +kernel
set_option maxRecDepth 65536 in
theorem w_runnable : about1.curStatus? = some .runnable := by decide +kernel
set_option maxRecDepth 65536 in
theorem w_alone : about1.alone = true := by decide +kernel
set_option maxRecDepth 65536 in
theorem w_named : about1.methodNamed? x = some theMethod := by decide +kernel
set_option maxRecDepth 65536 in
theorem w_hears : about1.hears theMethod below0 = true := by decide +kernel
set_option maxRecDepth 65536 in
theorem w_ripe : about1.ripe theMethod args0 below0 = true := by decide +kernel
theorem w_running : about1.status = .running := rfl
set_option maxRecDepth 65536 in
theorem w_room : about1.hasRoom e0.platform room_1 = true :=
  launch0.hasRoom_least _ room_1 (by decide +kernel) (by decide +kernel) (by decide +kernel) (by decide +kernel) (by decide +kernel) (by decide +kernel)
theorem allAtoms_all (ts : List Jvm.Cond) (a : Array Jvm.Value) (st : Jvm.State) : (allAtoms ts).before a st = ts.all (fun c => c.before a st) := by
  induction ts with
  | nil => rfl
  | cons c t ih =>
    show (Jvm.Cond.and c (allAtoms t)).before a st = _
    rw [Jvm.Cond.before_and, ih, List.all_cons]
def words1 : List Jvm.Cond := Jvm.Cond.code x code maxLocals ret :: tables_1
/-- a 'code' word, met by the world's own term for the bytes: nothing is compared byte by byte -/
theorem code_word {y : MethodName} {bytes : ByteArray} {mx : Nat} {rt : Option FieldType} {a : Array Value} {s : State} {m : MethodId} {meth : Method} {c : Code} (h1 : s.methodNamed? y = some m) (h2 : s.vm.method? m = some meth) (h3 : meth.code = some c) (h4 : c.code = bytes)
    (h5 : (c.maxLocals == mx && c.exceptionTable.isEmpty && decide (c.maxStack ≤ mostOperands) && decide (meth.sig.returnType = rt) && !meth.locks && decide (parseMethodDescriptor y.desc = some meth.sig)) = true) : (Jvm.Cond.code y bytes mx rt).before a s = true := by
  simp only [Bool.and_eq_true, beq_iff_eq, Bool.not_eq_true', decide_eq_true_eq] at h5
  obtain ⟨⟨⟨⟨⟨g1, g2⟩, g3⟩, g4⟩, g5⟩, g6⟩ := h5
  simp [Cond.before, Cond.holds, Cond.value, h1, h2, h3, h4, g1, g2, g3, g4, g5, g6]
def isCode : Jvm.Cond → Bool
  | .code _ _ _ _ => true
  | _ => false
theorem all_split {L : List Jvm.Cond} {P : Jvm.Cond → Bool} (h1 : L.all (fun c => isCode c || P c) = true) (h2 : ∀ c ∈ L.filter isCode, P c = true) : L.all P = true := by
  refine List.all_eq_true.mpr fun c hc => ?_
  have h := List.all_eq_true.mp h1 c hc
  rcases Bool.eq_false_or_eq_true (isCode c) with hi | hi
  · exact h2 c (List.mem_filter.mpr ⟨hc, hi⟩)
  · simpa [hi] using h
set_option maxRecDepth 65536 in
theorem w_c0 : (Jvm.Cond.code x code maxLocals ret).before args0 about1 = true := code_word (m := ⟨1, 1⟩) (meth := k1m1) (c := k1c1) (by decide +kernel) rfl rfl rfl (by decide +kernel)
set_option maxRecDepth 65536 in
theorem w_c1 : (Jvm.Cond.code ({ cls := "com/example/percurso/percurso/completeness/Work", name := "<init>", desc := "(J)V" } : Jvm.MethodName) prog_81_method_1_code (3 : Nat) (Option.none : Option Jvm.ClassFile.FieldType)).before args0 about1 = true := code_word (m := ⟨2, 0⟩) (meth := k2m0) (c := k2c0) (by decide +kernel) rfl rfl rfl (by decide +kernel)
set_option maxRecDepth 65536 in
theorem w_c2 : (Jvm.Cond.code ({ cls := "java/lang/Object", name := "<init>", desc := "()V" } : Jvm.MethodName) object_method_1_code (1 : Nat) (Option.none : Option Jvm.ClassFile.FieldType)).before args0 about1 = true := code_word (m := ⟨0, 0⟩) (meth := k0m0) (c := k0c0) (by decide +kernel) rfl rfl rfl (by decide +kernel)
set_option maxRecDepth 65536 in
theorem w_c3 : (Jvm.Cond.code ({ cls := "com/example/percurso/percurso/completeness/Work", name := "add", desc := "(J)V" } : Jvm.MethodName) prog_81_method_2_code (3 : Nat) (Option.none : Option Jvm.ClassFile.FieldType)).before args0 about1 = true := code_word (m := ⟨2, 1⟩) (meth := k2m1) (c := k2c1) (by decide +kernel) rfl rfl rfl (by decide +kernel)
set_option maxRecDepth 65536 in
theorem w_c4 : (Jvm.Cond.code ({ cls := "com/example/percurso/percurso/completeness/Work", name := "untilSpent", desc := "()J" } : Jvm.MethodName) prog_81_method_7_code (5 : Nat) (Option.some Jvm.ClassFile.FieldType.long)).before args0 about1 = true := code_word (m := ⟨2, 3⟩) (meth := k2m3) (c := k2c3) (by decide +kernel) rfl rfl rfl (by decide +kernel)
set_option maxRecDepth 65536 in
theorem w_c5 : (Jvm.Cond.code ({ cls := "com/example/percurso/percurso/completeness/Work", name := "spent", desc := "()Z" } : Jvm.MethodName) prog_81_method_8_code (1 : Nat) (Option.some Jvm.ClassFile.FieldType.boolean)).before args0 about1 = true := code_word (m := ⟨2, 4⟩) (meth := k2m4) (c := k2c4) (by decide +kernel) rfl rfl rfl (by decide +kernel)
set_option maxRecDepth 65536 in
theorem w_c6 : (Jvm.Cond.code ({ cls := "com/example/percurso/percurso/completeness/Work", name := "copy", desc := "()Lcom/example/percurso/percurso/completeness/Work;" } : Jvm.MethodName) prog_81_method_4_code (2 : Nat) (Option.some (Jvm.ClassFile.FieldType.object "com/example/percurso/percurso/completeness/Work"))).before args0 about1 = true := code_word (m := ⟨2, 2⟩) (meth := k2m2) (c := k2c2) (by decide +kernel) rfl rfl rfl (by decide +kernel)
def codes1 : List Jvm.Cond := [Jvm.Cond.code x code maxLocals ret, Jvm.Cond.code ({ cls := "com/example/percurso/percurso/completeness/Work", name := "<init>", desc := "(J)V" } : Jvm.MethodName) prog_81_method_1_code (3 : Nat) (Option.none : Option Jvm.ClassFile.FieldType), Jvm.Cond.code ({ cls := "java/lang/Object", name := "<init>", desc := "()V" } : Jvm.MethodName) object_method_1_code (1 : Nat) (Option.none : Option Jvm.ClassFile.FieldType), Jvm.Cond.code ({ cls := "com/example/percurso/percurso/completeness/Work", name := "add", desc := "(J)V" } : Jvm.MethodName) prog_81_method_2_code (3 : Nat) (Option.none : Option Jvm.ClassFile.FieldType), Jvm.Cond.code ({ cls := "com/example/percurso/percurso/completeness/Work", name := "untilSpent", desc := "()J" } : Jvm.MethodName) prog_81_method_7_code (5 : Nat) (Option.some Jvm.ClassFile.FieldType.long), Jvm.Cond.code ({ cls := "com/example/percurso/percurso/completeness/Work", name := "spent", desc := "()Z" } : Jvm.MethodName) prog_81_method_8_code (1 : Nat) (Option.some Jvm.ClassFile.FieldType.boolean), Jvm.Cond.code ({ cls := "com/example/percurso/percurso/completeness/Work", name := "copy", desc := "()Lcom/example/percurso/percurso/completeness/Work;" } : Jvm.MethodName) prog_81_method_4_code (2 : Nat) (Option.some (Jvm.ClassFile.FieldType.object "com/example/percurso/percurso/completeness/Work"))]
set_option maxRecDepth 65536 in
theorem codes_eq : words1.filter isCode = codes1 := rfl
theorem w_codes : ∀ c ∈ words1.filter isCode, c.before args0 about1 = true := by
  rw [codes_eq]
  intro c hc
  simp only [codes1, List.mem_cons, List.not_mem_nil, or_false] at hc
  rcases hc with rfl | rfl | rfl | rfl | rfl | rfl | rfl
  · exact w_c0
  · exact w_c1
  · exact w_c2
  · exact w_c3
  · exact w_c4
  · exact w_c5
  · exact w_c6
set_option maxRecDepth 65536 in
theorem w_t1 : (words1.take 24).all (fun c => isCode c || c.before args0 about1) = true := by decide +kernel
set_option maxRecDepth 65536 in
theorem w_t2 : (words1.drop 24).all (fun c => isCode c || c.before args0 about1) = true := by decide +kernel
theorem w_tables : (allAtoms (Jvm.Cond.code x code maxLocals ret :: tables_1)).before args0 about1 = true := by
  rw [allAtoms_all]
  show words1.all (fun c => c.before args0 about1) = true
  refine all_split ?_ w_codes
  rw [← List.take_append_drop 24 words1, List.all_append, w_t1, w_t2]
  rfl
set_option maxRecDepth 65536 in
theorem w_case : (Jvm.Cond.and given_1 narrow_1).before args0 about1 = true := by decide +kernel
theorem w_applies : (headSpec (Jvm.Cond.code x code maxLocals ret :: tables_1) room_1).applies x e0.platform about1 = true :=
  (Spec.applies_iff w_frames).mpr ⟨w_running, w_runnable, w_alone, w_named, w_hears, w_ripe, w_room, w_tables⟩
theorem atStart : AtStart classFile x code maxLocals ret World_1 tables_1 room_1 Calls_1 rest_1 Pre_1 launch0 p0 e0 about1 theMethod args0 below0 :=
  ⟨lists_1, trivial, launch0.admits_env _ _ _, launch0.least_env, fairChoices_fair.cas, fairChoices_fair.clock, w_frames, w_args, w_heap, w_applies, trivial, trivial, w_case⟩
end start1
theorem witness_1 : WitnessClaimed_1 := ⟨start1.p0, start1.e0, start1.about1, start1.theMethod, start1.args0, start1.below0, start1.atStart⟩
end Jvm.Pilot.@@N@@
