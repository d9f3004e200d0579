import JvmDerived
import JvmDerived.Pilot.@@N@@Statement
import JvmDerived.Pilot.@@N@@Code
set_option linter.unusedVariables false
set_option linter.unusedSimpArgs false
namespace Jvm.RoadKit
open Sem ClassFile Op Lib Jvm.Stand Jvm.Free Jvm.LawKit
section New
variable {p : Program} {l : Launch} {e : Env} {R : Room} {s : State} {m : MethodId} {args : Array Value} {below : List Frame} {meth : Method} {c : Code} {T : State} {locs : List Loc} {cells slots : Nat}
theorem retI (X : Stand p l e R s m args below meth c T locs cells slots) (hx : p.tables.exec = Jvm.exec) {pc : Nat} {Ls : Array Slot} {z : Int32} {rest : List Value} (hret : meth.sig.returnType = some .int) (hd : decode c.code pc = .ok (.ireturn, 1)) {fs : List Frame}
    (hl : ∀ (f : JFrame) (acts : List Action), f.method = m → f.locked = none → f.entered = [] → (doReturn e (T.setTop f) acts (some (.int z))).1 = T.setFrames fs) : Steps p.tables e below (T.setTop (mkF m pc Ls (.int z :: rest))) (T.setFrames fs) :=
  retOut X hx hret rfl (Or.inl ⟨rfl, Or.inl rfl, _, rfl⟩) hd hl
theorem retJ (X : Stand p l e R s m args below meth c T locs cells slots) (hx : p.tables.exec = Jvm.exec) {pc : Nat} {Ls : Array Slot} {z : Int64} {rest : List Value} (hret : meth.sig.returnType = some .long) (hd : decode c.code pc = .ok (.lreturn, 1)) {fs : List Frame}
    (hl : ∀ (f : JFrame) (acts : List Action), f.method = m → f.locked = none → f.entered = [] → (doReturn e (T.setTop f) acts (some (.long z))).1 = T.setFrames fs) : Steps p.tables e below (T.setTop (mkF m pc Ls (.long z :: rest))) (T.setFrames fs) :=
  retOut X hx hret rfl (Or.inr (Or.inl ⟨rfl, rfl, _, rfl⟩)) hd hl
theorem retR (X : Stand p l e R s m args below meth c T locs cells slots) (hx : p.tables.exec = Jvm.exec) {pc : Nat} {Ls : Array Slot} {w : Value} {t : FieldType} {rest : List Value} (hret : meth.sig.returnType = some t) (ht : t.isReference = true) (hv : w.isRef = true) (hd : decode c.code pc = .ok (.areturn, 1)) {fs : List Frame}
    (hl : ∀ (f : JFrame) (acts : List Action), f.method = m → f.locked = none → f.entered = [] → (doReturn e (T.setTop f) acts (some w)).1 = T.setFrames fs) : Steps p.tables e below (T.setTop (mkF m pc Ls (w :: rest))) (T.setFrames fs) :=
  retOut X hx hret (by cases t <;> simp_all [narrow, FieldType.isReference]) (Or.inr (Or.inr (Or.inr (Or.inr ⟨rfl, ht, hv⟩)))) hd hl
theorem retD (X : Stand p l e R s m args below meth c T locs cells slots) (hx : p.tables.exec = Jvm.exec) {pc : Nat} {Ls : Array Slot} {z : UInt64} {rest : List Value} (hret : meth.sig.returnType = some .double) (hd : decode c.code pc = .ok (.dreturn, 1)) {fs : List Frame}
    (hl : ∀ (f : JFrame) (acts : List Action), f.method = m → f.locked = none → f.entered = [] → (doReturn e (T.setTop f) acts (some (.double z))).1 = T.setFrames fs) : Steps p.tables e below (T.setTop (mkF m pc Ls (.double z :: rest))) (T.setFrames fs) :=
  retOut X hx hret rfl (Or.inr (Or.inr (Or.inl ⟨rfl, rfl, _, rfl⟩))) hd hl
end New
end Jvm.RoadKit
namespace Jvm.Pilot.@@N@@
theorem own_pp (k : Nat) : (1 : Int) ≤ 2 ^ k := by
  have h := Nat.two_pow_pos k
  have e : ((2 ^ k : Nat) : Int) = (2 : Int) ^ k := by simp
  omega

theorem own_mn {k j : Nat} (h : k ≤ j) : (2 : Int) ^ k ≤ 2 ^ j := by
  obtain ⟨d, rfl⟩ := Nat.le.dest h
  rw [Int.pow_add]
  have h1 := own_pp k
  have h2 := own_pp d
  have := Int.mul_le_mul_of_nonneg_left h2 (show (0 : Int) ≤ 2 ^ k by omega)
  omega

theorem own_le_of {k j : Nat} (h : (2 : Int) ^ k < 2 ^ j) : k < j := by
  refine Nat.lt_of_not_ge fun q => ?_
  have := own_mn q
  omega

/-- whole numbers that a double holds -/
def own_R (m : Int) : Prop := ∃ (k : Nat) (z : Int), m = z * 2 ^ k ∧ -(9007199254740992 * 2 ^ k) < m ∧ m < 9007199254740992 * 2 ^ k

/-- s is m rounded to a double -/
def own_N (m s : Int) : Prop :=
  (s = m ∧ -9007199254740992 < m ∧ m < 9007199254740992) ∨
  ∃ k : Nat, (4503599627370496 * 2 ^ k ≤ m ∨ m ≤ -(4503599627370496 * 2 ^ k)) ∧ -(9007199254740992 * 2 ^ k) < m ∧ m < 9007199254740992 * 2 ^ k ∧
    (∃ z : Int, s = z * 2 ^ k) ∧ -(2 ^ k) ≤ 2 * (s - m) ∧ 2 * (s - m) ≤ 2 ^ k

theorem own_mul_gap {z w P : Int} (hP : 1 ≤ P) (h : z * P < w * P) : z * P + P ≤ w * P := by
  have h1 : z < w := Int.lt_of_mul_lt_mul_right h (by omega)
  have h2 := Int.mul_le_mul_of_nonneg_right (show z + 1 ≤ w by omega) (show (0 : Int) ≤ P by omega)
  rw [Int.add_mul] at h2; omega

theorem own_R_neg {m : Int} (h : own_R m) : own_R (-m) := by
  obtain ⟨k, z, h1, h2, h3⟩ := h
  exact ⟨k, -z, by rw [h1, Int.neg_mul], by omega, by omega⟩

theorem own_R_small {m : Int} (h1 : -9007199254740992 < m) (h2 : m < 9007199254740992) : own_R m :=
  ⟨0, m, by simp, by simpa using h1, by simpa using h2⟩

theorem own_R_le {m : Int} {k : Nat} {z : Int} (h1 : m = z * 2 ^ k) (h2 : -(9007199254740992 * 2 ^ k) ≤ m) (h3 : m ≤ 9007199254740992 * 2 ^ k) : own_R m := by
  have hP := own_pp k
  by_cases c1 : m = 9007199254740992 * 2 ^ k
  · refine ⟨k + 1, 4503599627370496, ?_, ?_, ?_⟩ <;> rw [Int.pow_succ] <;> omega
  by_cases c2 : m = -(9007199254740992 * 2 ^ k)
  · refine ⟨k + 1, -4503599627370496, ?_, ?_, ?_⟩ <;> rw [Int.pow_succ] <;> omega
  exact ⟨k, z, h1, by omega, by omega⟩

/-- a number of k digits' size is a multiple of that quantum -/
theorem own_R_dvd {m : Int} (h : own_R m) {k : Nat} (hk : 4503599627370496 * 2 ^ k ≤ m ∨ m ≤ -(4503599627370496 * 2 ^ k)) : ∃ z : Int, m = z * 2 ^ k := by
  obtain ⟨j, z, h1, h2, h3⟩ := h
  have h4 : (2 : Int) ^ k < 2 ^ (j + 1) := by rw [Int.pow_succ]; have := own_pp j; omega
  have h5 := own_le_of h4
  obtain ⟨d, rfl⟩ := Nat.le.dest (show k ≤ j by omega)
  refine ⟨z * 2 ^ d, ?_⟩
  rw [h1, Int.pow_add, Int.mul_assoc, Int.mul_comm (2 ^ k)]

theorem own_dvd_le {m : Int} {j k : Nat} (hk : k ≤ j) (h : ∃ z : Int, m = z * 2 ^ j) : ∃ z : Int, m = z * 2 ^ k := by
  obtain ⟨z, h1⟩ := h
  obtain ⟨d, rfl⟩ := Nat.le.dest hk
  exact ⟨z * 2 ^ d, by rw [h1, Int.pow_add, Int.mul_assoc, Int.mul_comm (2 ^ k)]⟩

theorem own_dvd_add {m n P : Int} (h1 : ∃ z : Int, m = z * P) (h2 : ∃ z : Int, n = z * P) : ∃ z : Int, m + n = z * P := by
  obtain ⟨z, rfl⟩ := h1; obtain ⟨w, rfl⟩ := h2; exact ⟨z + w, by rw [Int.add_mul]⟩
theorem own_dvd_sub {m n P : Int} (h1 : ∃ z : Int, m = z * P) (h2 : ∃ z : Int, n = z * P) : ∃ z : Int, m - n = z * P := by
  obtain ⟨z, rfl⟩ := h1; obtain ⟨w, rfl⟩ := h2; exact ⟨z - w, by rw [Int.sub_mul]⟩

theorem own_N_neg {m s : Int} (h : own_N m s) : own_N (-m) (-s) := by
  rcases h with ⟨h1, h2, h3⟩ | ⟨k, h1, h2, h3, ⟨z, h4⟩, h5, h6⟩
  · exact .inl ⟨by omega, by omega, by omega⟩
  · exact .inr ⟨k, by omega, by omega, by omega, ⟨-z, by rw [h4, Int.neg_mul]⟩, by omega, by omega⟩

/-- the rounded number lies in the same binade, its upper end included -/
theorem own_N_bin {m s : Int} {k : Nat} (h1 : 4503599627370496 * 2 ^ k ≤ m ∨ m ≤ -(4503599627370496 * 2 ^ k)) (h2 : -(9007199254740992 * 2 ^ k) < m) (h3 : m < 9007199254740992 * 2 ^ k)
    (h4 : ∃ z : Int, s = z * 2 ^ k) (h5 : -(2 ^ k) ≤ 2 * (s - m)) (h6 : 2 * (s - m) ≤ 2 ^ k) :
    (4503599627370496 * 2 ^ k ≤ s ∧ s ≤ 9007199254740992 * 2 ^ k) ∨ (s ≤ -(4503599627370496 * 2 ^ k) ∧ -(9007199254740992 * 2 ^ k) ≤ s) := by
  obtain ⟨z, rfl⟩ := h4
  have hP := own_pp k
  generalize (2 : Int) ^ k = P at *
  have g1 := fun q => own_mul_gap (z := z) (w := 4503599627370496) hP q
  have g2 := fun q => own_mul_gap (z := 9007199254740992) (w := z) hP q
  have g3 := fun q => own_mul_gap (z := -4503599627370496) (w := z) hP q
  have g4 := fun q => own_mul_gap (z := z) (w := -9007199254740992) hP q
  generalize z * P = s at *
  rcases h1 with h1 | h1
  · left; constructor
    · refine Int.not_lt.mp fun q => ?_
      have := g1 q; omega
    · refine Int.not_lt.mp fun q => ?_
      have := g2 q; omega
  · right; constructor
    · refine Int.not_lt.mp fun q => ?_
      have := g3 (by omega); omega
    · refine Int.not_lt.mp fun q => ?_
      have := g4 (by omega); omega

theorem own_N_R {m s : Int} (h : own_N m s) : own_R s := by
  rcases h with ⟨h1, h2, h3⟩ | ⟨k, h1, h2, h3, h4, h5, h6⟩
  · exact own_R_small (by omega) (by omega)
  · have hb := own_N_bin h1 h2 h3 h4 h5 h6
    have hP := own_pp k
    obtain ⟨z, h4⟩ := h4
    exact own_R_le (k := k) h4 (by omega) (by omega)

/-- no multiple of the quantum is nearer -/
theorem own_near {m s f P : Int} (hP : 1 ≤ P) (h4 : ∃ z : Int, s = z * P) (h5 : -P ≤ 2 * (s - m)) (h6 : 2 * (s - m) ≤ P) (hf : ∃ z : Int, f = z * P) : (s - m).natAbs ≤ (f - m).natAbs := by
  obtain ⟨z, rfl⟩ := h4
  obtain ⟨w, rfl⟩ := hf
  have g1 := fun q => own_mul_gap (z := z) (w := w) hP q
  have g2 := fun q => own_mul_gap (z := w) (w := z) hP q
  generalize z * P = s at *
  generalize w * P = f at *
  by_cases c1 : s < f
  · have := g1 c1; omega
  by_cases c2 : f < s
  · have := g2 c2; omega
  · omega

/-- nothing that a double holds is nearer -/
theorem own_N_best {m s f : Int} (h : own_N m s) (hf : own_R f) : (s - m).natAbs ≤ (f - m).natAbs := by
  rcases h with ⟨h1, h2, h3⟩ | ⟨k, h1, h2, h3, h4, h5, h6⟩
  · subst h1; simp
  · have hP := own_pp k
    by_cases c : 4503599627370496 * 2 ^ k ≤ f ∨ f ≤ -(4503599627370496 * 2 ^ k)
    · exact own_near hP h4 h5 h6 (own_R_dvd hf c)
    · have e1 := own_near hP h4 h5 h6 (f := 4503599627370496 * 2 ^ k) ⟨_, rfl⟩
      have e2 := own_near hP h4 h5 h6 (f := -4503599627370496 * 2 ^ k) ⟨_, rfl⟩
      generalize (2 : Int) ^ k = P at *
      omega

theorem own_N_exact {m s : Int} (h : own_N m s) (hm : own_R m) : s = m := by
  have := own_N_best h hm
  omega

theorem own_N_fun {m s t : Int} (h : own_N m s) (hm : own_R m) (ht : own_N m t) : s = t := by
  rw [own_N_exact h hm, own_N_exact ht hm]

/-- the error of a sum is a double -/
theorem own_err {a b s : Int} (ha : own_R a) (hb : own_R b) (h : own_N (a + b) s) : own_R (a + b - s) := by
  have n1 := own_N_best h ha
  have n2 := own_N_best h hb
  rcases h with ⟨h1, h2, h3⟩ | ⟨k, h1, h2, h3, h4, h5, h6⟩
  · subst h1; exact own_R_small (by omega) (by omega)
  · have key : ∀ {a b : Int} {ka kb : Nat} {za zb : Int}, ka ≤ kb → a = za * 2 ^ ka → b = zb * 2 ^ kb → -(9007199254740992 * 2 ^ ka) < a → a < 9007199254740992 * 2 ^ ka →
        -(9007199254740992 * 2 ^ k) < a + b → a + b < 9007199254740992 * 2 ^ k → -(2 ^ k) ≤ 2 * (s - (a + b)) → 2 * (s - (a + b)) ≤ 2 ^ k → (s - (a + b)).natAbs ≤ a.natAbs → own_R (a + b - s) := by
      intro a b ka kb za zb hk ea eb a1 a2 b1 b2 e1 e2 e3
      have d1 : ∃ z : Int, a + b = z * 2 ^ ka := own_dvd_add ⟨za, ea⟩ (own_dvd_le hk ⟨zb, eb⟩)
      by_cases c : k ≤ ka
      · have d2 : ∃ z : Int, a + b - s = z * 2 ^ k := own_dvd_sub (own_dvd_le c d1) h4
        obtain ⟨z, d2⟩ := d2
        have := own_pp k
        exact own_R_le (k := k) d2 (by omega) (by omega)
      · obtain ⟨z, d2⟩ := own_dvd_sub d1 (own_dvd_le (show ka ≤ k by omega) h4)
        exact own_R_le (k := ka) d2 (by omega) (by omega)
    obtain ⟨ka, za, ea, a1, a2⟩ := ha
    obtain ⟨kb, zb, eb, b1, b2⟩ := hb
    by_cases c : ka ≤ kb
    · exact key c ea eb a1 a2 h2 h3 h5 h6 (by omega)
    · have := key (show kb ≤ ka by omega) eb ea b1 b2 (by omega) (by omega) (by omega) (by omega) (by omega)
      rw [show a + b - s = b + a - s by omega]; exact this

/-- where |a| is not less than |b|, s - a is a double -/
theorem own_fast {a b s : Int} (ha : own_R a) (hb : own_R b) (h : own_N (a + b) s) (hab : b.natAbs ≤ a.natAbs) : own_R (s - a) := by
  by_cases hx : s = a + b
  · rw [show s - a = b by omega]; exact hb
  have hn : ¬ own_R (a + b) := fun q => hx (own_N_exact h q)
  rcases h with ⟨h1, h2, h3⟩ | ⟨k, h1, h2, h3, h4, h5, h6⟩
  · exact absurd h1 hx
  · cases k with
    | zero => simp at h5 h6; omega
    | succ j =>
      have hP := own_pp j
      have e2 : (2 : Int) ^ (j + 1) = 2 * 2 ^ j := by rw [Int.pow_succ]; omega
      have da : ∃ z : Int, a = z * 2 ^ j := own_R_dvd ha (by omega)
      obtain ⟨w, dw⟩ := own_dvd_sub (own_dvd_le (show j ≤ j + 1 by omega) h4) da
      have lb : ¬ (4503599627370496 * 2 ^ (j + 1) ≤ b ∨ b ≤ -(4503599627370496 * 2 ^ (j + 1))) := by
        intro q
        have q1 := own_R_dvd hb q
        have q2 := own_R_dvd ha (k := j + 1) (by omega)
        obtain ⟨z, hz⟩ := own_dvd_add q2 q1
        exact hn ⟨j + 1, z, hz, h2, h3⟩
      have lb2 : -(9007199254740991 * 2 ^ j) ≤ b ∧ b ≤ 9007199254740991 * 2 ^ j := by
        by_cases q : 4503599627370496 * 2 ^ j ≤ b ∨ b ≤ -(4503599627370496 * 2 ^ j)
        · obtain ⟨z, hz⟩ := own_R_dvd hb q
          have g1 := fun q => own_mul_gap (z := z) (w := 9007199254740992) hP q
          have g2 := fun q => own_mul_gap (z := -9007199254740992) (w := z) hP q
          rw [← hz] at g1 g2
          rw [e2] at lb
          have := g1 (by omega)
          have := g2 (by omega)
          omega
        · omega
      exact own_R_le (k := j) dw (by omega) (by omega)

/-- the two-sum: what it gives is the error of the sum, whatever the order of a and b -/
theorem own_two {a b s p q da db : Int} (ha : own_R a) (hb : own_R b) (hs : own_N (a + b) s) (hp : own_N (s - a) p) (hq : own_N (s - p) q)
    (hda : own_N (a - q) da) (hdb : own_N (b - p) db) : da + db = a + b - s := by
  have hsR := own_N_R hs
  have hpR := own_N_R hp
  by_cases hx : s = a + b
  · have e1 : p = b := by rw [own_N_exact hp (by rw [show s - a = b by omega]; exact hb)]; omega
    subst e1
    have e2 : q = a := by rw [own_N_exact hq (by rw [show s - p = a by omega]; exact ha)]; omega
    subst e2
    rw [own_N_exact hda (own_R_small (by omega) (by omega)), own_N_exact hdb (own_R_small (by omega) (by omega))]; omega
  by_cases c : b.natAbs ≤ a.natAbs
  · have e1 := own_N_exact hp (own_fast ha hb hs c)
    have e2 : q = a := by rw [own_N_exact hq (by rw [e1, show s - (s - a) = a by omega]; exact ha)]; omega
    have e3 : own_R (b - p) := by rw [e1, show b - (s - a) = a + b - s by omega]; exact own_err ha hb hs
    rw [own_N_exact hda (own_R_small (by omega) (by omega)), own_N_exact hdb e3]; omega
  · have hn : ¬ own_R (a + b) := fun q => hx (own_N_exact hs q)
    rcases hs with ⟨h1, h2, h3⟩ | ⟨k, h1, h2, h3, h4, h5, h6⟩
    · exact absurd h1 hx
    · have hbin := own_N_bin h1 h2 h3 h4 h5 h6
      have hP := own_pp k
      have las : a.natAbs ≤ s.natAbs := by
        by_cases g : a.natAbs ≤ s.natAbs
        · exact g
        · have q2 := own_R_dvd ha (k := k) (by omega)
          have q1 := own_R_dvd hb (k := k) (by omega)
          obtain ⟨z, hz⟩ := own_dvd_add q2 q1
          exact absurd ⟨k, z, hz, h2, h3⟩ hn
      have hp' : own_N (s + -a) p := hp
      have r1 : own_R (p - s) := own_fast hsR (own_R_neg ha) hp' (by omega)
      have e1 : q = s - p := own_N_exact hq (by rw [show s - p = -(p - s) by omega]; exact own_R_neg r1)
      have r2 : own_R (s + -a - p) := own_err hsR (own_R_neg ha) hp'
      have e2 : da = a - q := own_N_exact hda (by rw [e1, show a - (s - p) = -(s + -a - p) by omega]; exact own_R_neg r2)
      have n1 := own_N_best hp hb
      have r3 : own_R (b - p) := by
        have pw : k ≤ 2 ∨ ∃ j, k = j + 2 := by
          by_cases g : k ≤ 2
          · exact .inl g
          · exact .inr ⟨k - 2, by omega⟩
        rcases pw with g | ⟨j, rfl⟩
        · have := own_mn g
          exact own_R_small (by omega) (by omega)
        · have e4 : (2 : Int) ^ (j + 2) = 4 * 2 ^ j := by rw [Int.pow_add]; omega
          have d1 := own_R_dvd hb (k := j) (by omega)
          have d2 := own_R_dvd hpR (k := j) (by omega)
          obtain ⟨z, hz⟩ := own_dvd_sub d1 d2
          exact own_R_le (k := j) hz (by omega) (by omega)
      have e3 := own_N_exact hdb r3
      omega

section OwnFl
open Jvm.FP.Core
theorem own_rr (f : Fmt) (s : Bool) (A B : Nat) (e : Int) : roundRatio f s A B e = if A = 0 then .fin s 0 f.qmin else settle f s (nearest (unitsNum A e (quantum f A B e)) (unitsDen B e (quantum f A B e))) (quantum f A B e) := rfl
theorem own_set (s : Bool) (c : Nat) (q : Int) : settle b64 s c q = if c < 2 ^ 53 then (if q ≤ b64.qmax then .fin s c q else .inf s) else (if q + 1 ≤ b64.qmax then .fin s b64.tails (q + 1) else .inf s) := rfl
theorem own_sg (s : Bool) (c : Nat) : signed s c = if s then -(c : Int) else (c : Int) := rfl
theorem own_qmin : b64.qmin = -1074 := by decide
theorem own_qmax : b64.qmax = 971 := by decide
theorem own_tails : b64.tails = 4503599627370496 := by decide
theorem own_un (n : Nat) (k : Nat) : unitsNum n 0 (k : Int) = n := by
  show n * 2 ^ ((0 : Int) - (k : Int)).toNat = n
  rw [show ((0 : Int) - (k : Int)).toNat = 0 by omega]; omega
theorem own_ud (k : Nat) : unitsDen 1 0 (k : Int) = 2 ^ k := by
  show 1 * 2 ^ ((k : Int) - (0 : Int)).toNat = 2 ^ k
  rw [show ((k : Int) - (0 : Int)).toNat = k by omega]; omega
theorem own_bl (n k : Nat) : Below n 1 (k : Int) ↔ n < 2 ^ k := by
  have h := below_iff n 1 k 0
  rw [show ((k : Int) - ((0 : Nat) : Int)) = k by omega] at h
  rw [h]; simp

theorem own_quantum {n k : Nat} (h1 : 4503599627370496 * 2 ^ k ≤ n) (h2 : n < 9007199254740992 * 2 ^ k) : quantum b64 n 1 0 = (k : Int) := by
  have hp := Nat.two_pow_pos k
  refine quantum_eq (by omega) (by decide) (by rw [own_qmin]; omega) ?_ (.inr ?_)
  · rw [show (k : Int) - 0 + ((b64.p : Nat) : Int) = ((k + 53 : Nat) : Int) by show (k : Int) - 0 + ((53 : Nat) : Int) = _; omega, own_bl, Nat.pow_add]; omega
  · rw [show (k : Int) - 0 + (((b64.p : Nat) : Int) - 1) = ((k + 52 : Nat) : Int) by show (k : Int) - 0 + (((53 : Nat) : Int) - 1) = _; omega, own_bl, Nat.pow_add]; omega

theorem own_bin {n : Nat} (h : 9007199254740992 ≤ n) : ∃ k, 4503599627370496 * 2 ^ k ≤ n ∧ n < 9007199254740992 * 2 ^ k := by
  have l1 : 2 ^ n.log2 ≤ n := Nat.log2_self_le (by omega)
  have l2 : n < 2 ^ (n.log2 + 1) := Nat.lt_log2_self
  generalize n.log2 = L at *
  have l3 : 52 < L + 1 := (Nat.pow_lt_pow_iff_right (a := 2) (by decide)).mp (by omega)
  obtain ⟨k, rfl⟩ : ∃ k, L = 52 + k := ⟨L - 52, by omega⟩
  refine ⟨k, ?_, ?_⟩
  · rw [Nat.pow_add] at l1; omega
  · rw [Nat.pow_succ, Nat.pow_add] at l2; omega

/-- a whole number rounded is a whole number, the nearest -/
theorem own_round {i : Int} {d : Datum} (h : Whole i d) (h1 : -18446744073709551616 < i) (h2 : i < 18446744073709551616) : ∃ r, Whole r (round b64 d) ∧ own_N i r := by
  by_cases hs : -9007199254740992 < i ∧ i < 9007199254740992
  · exact ⟨i, whole_round good_b64 wide_b64 (show i.natAbs ≤ 2 ^ 53 by omega) h, .inl ⟨rfl, hs.1, hs.2⟩⟩
  cases d with
  | nan => exact h.elim
  | inf => exact h.elim
  | fin s c q =>
    have hsg := whole_sign h (by omega)
    rw [round_whole h]
    obtain ⟨k, k1, k2⟩ := own_bin (n := i.natAbs) (by omega)
    rw [own_rr, if_neg (by omega), own_quantum k1 k2, own_un, own_ud, own_set]
    have hp := Nat.two_pow_pos k
    have hk : k < 12 := by
      refine (Nat.pow_lt_pow_iff_right (a := 2) (by decide)).mp ?_
      omega
    have g1 := nearest_ge (A := i.natAbs) (B := 2 ^ k) (M := 4503599627370496) hp k1
    have g2 := nearest_le (A := i.natAbs) (B := 2 ^ k) (M := 9007199254740992) hp (by omega)
    obtain ⟨n1, n2, _⟩ := nearest_spec i.natAbs (2 ^ k) hp
    generalize nearest i.natAbs (2 ^ k) = m at *
    have e0 : ((2 ^ k : Nat) : Int) = (2 : Int) ^ k := by simp
    have e1 : (2 * m + 1) * 2 ^ k = 2 * (m * 2 ^ k) + 2 ^ k := by rw [Nat.add_mul, Nat.mul_assoc]; omega
    have e2 : 2 * m * 2 ^ k = 2 * (m * 2 ^ k) := by rw [Nat.mul_assoc]
    rw [e1] at n1
    rw [e2] at n2
    refine ⟨signed s (m * 2 ^ k), ?_, .inr ⟨k, ?_, ?_, ?_, ?_, ?_, ?_⟩⟩
    · rw [if_pos (show (k : Int) ≤ b64.qmax by rw [own_qmax]; omega), if_pos (show (k : Int) + 1 ≤ b64.qmax by rw [own_qmax]; omega)]
      split
      · show signed s (m * 2 ^ (k : Int).toNat) = signed s (m * 2 ^ k) * ((2 ^ (-(k : Int)).toNat : Nat) : Int)
        rw [show (-(k : Int)).toNat = 0 by omega, show (k : Int).toNat = k by omega]; simp
      · rename_i hm
        have : m = 9007199254740992 := by omega
        subst this
        show signed s (b64.tails * 2 ^ ((k : Int) + 1).toNat) = signed s (9007199254740992 * 2 ^ k) * ((2 ^ (-((k : Int) + 1)).toNat : Nat) : Int)
        rw [show (-((k : Int) + 1)).toNat = 0 by omega, show ((k : Int) + 1).toNat = k + 1 by omega, own_tails, Nat.pow_succ, show 4503599627370496 * (2 ^ k * 2) = 9007199254740992 * 2 ^ k by omega]; simp
    · omega
    · omega
    · omega
    · refine ⟨signed s m, ?_⟩
      rw [signed_mul, e0]
    all_goals
      generalize m * 2 ^ k = w at *
      subst hsg
      by_cases hneg : i < 0
      · simp only [hneg, decide_true, own_sg, if_true]; omega
      · simp only [hneg, decide_false, own_sg]; simp; omega

/-- a double that is the whole number i -/
def own_D (i : Int) (a : UInt64) : Prop := Whole i (val64 a)
theorem own_l2d (a : Int64) : ∃ r, own_D r (l2d a) ∧ own_N a.toInt r := by
  have h1 := a.toInt_lt
  have h2 := a.le_toInt
  show ∃ r, Whole r (val64 (l2d a)) ∧ own_N a.toInt r
  rw [val64_l2d]
  exact own_round (whole_ofInt _) (by omega) (by omega)
theorem own_dadd {i j : Int} {a b : UInt64} (ha : own_D i a) (hb : own_D j b) (h1 : -18446744073709551616 < i + j) (h2 : i + j < 18446744073709551616) : ∃ r, own_D r (dadd a b) ∧ own_N (i + j) r := by
  show ∃ r, Whole r (val64 (dadd a b)) ∧ own_N (i + j) r
  rw [val64_dadd]
  exact own_round (whole_sum ha hb) h1 h2
theorem own_dsub {i j : Int} {a b : UInt64} (ha : own_D i a) (hb : own_D j b) (h1 : -18446744073709551616 < i - j) (h2 : i - j < 18446744073709551616) : ∃ r, own_D r (dsub a b) ∧ own_N (i - j) r := by
  show ∃ r, Whole r (val64 (dsub a b)) ∧ own_N (i - j) r
  rw [val64_dsub]
  exact own_round (whole_sum ha (whole_negate hb)) h1 h2
theorem own_d2l {i : Int} {a : UInt64} (h : own_D i a) (h1 : -9223372036854775808 ≤ i) (h2 : i < 9223372036854775808) : (d2l a).toInt = i := by
  have e : d2l a = Int64.ofInt (toInt (-2 ^ 63) (2 ^ 63 - 1) (val64 a)) := rfl
  rw [e, toInt_whole h (by omega) (by omega)]
  exact Int64.toInt_ofInt_of_le (by omega) (by omega)
theorem own_dcmp {i : Int} {a b : UInt64} (ha : own_D i a) (hb : own_D i b) : dcmp a b = some .eq := by
  have h : dcmp a b = some (compare i i) := order_whole ha hb
  rw [h]; congr 1
  show (if i < i then Ordering.lt else if i = i then .eq else .gt) = .eq
  simp
theorem own_nan {i : Int} {a : UInt64} (h : own_D i a) : val64 a ≠ .nan := by
  intro q
  have h' : Whole i (val64 a) := h
  rw [q] at h'; exact h'.elim

theorem own_bd {m s : Int} (B : Int) (h : own_N m s) (hB : own_R B) (h1 : -B ≤ m) (h2 : m ≤ B) : -B ≤ s ∧ s ≤ B := by
  have a1 := own_N_best h hB
  have a2 := own_N_best h (own_R_neg hB)
  omega
theorem own_pw (k : Nat) : own_R (2 ^ k) := ⟨k, 1, by omega, by have := own_pp k; omega, by have := own_pp k; omega⟩
/-- the law's reckoning -/
theorem own_law (x y : Int64) (hx1 : -1152921504606846976 ≤ x.toInt) (hx2 : x.toInt < 1152921504606846976) (hy1 : -1152921504606846976 ≤ y.toInt) (hy2 : y.toInt < 1152921504606846976) :
    val64 (dadd (l2d x) (l2d y)) ≠ .nan ∧
    val64 (dsub (dadd (l2d x) (l2d y)) (l2d x)) ≠ .nan ∧
    val64 (dsub (dadd (l2d x) (l2d y)) (dsub (dadd (l2d x) (l2d y)) (l2d x))) ≠ .nan ∧
    val64 (dsub (l2d x) (dsub (dadd (l2d x) (l2d y)) (dsub (dadd (l2d x) (l2d y)) (l2d x)))) ≠ .nan ∧
    val64 (dsub (l2d y) (dsub (dadd (l2d x) (l2d y)) (l2d x))) ≠ .nan ∧
    val64 (dadd (dsub (l2d x) (dsub (dadd (l2d x) (l2d y)) (dsub (dadd (l2d x) (l2d y)) (l2d x)))) (dsub (l2d y) (dsub (dadd (l2d x) (l2d y)) (l2d x)))) ≠ .nan ∧
    dcmp (dadd (dsub (l2d x) (dsub (dadd (l2d x) (l2d y)) (dsub (dadd (l2d x) (l2d y)) (l2d x)))) (dsub (l2d y) (dsub (dadd (l2d x) (l2d y)) (l2d x))))
      (l2d (d2l (l2d x) + d2l (l2d y) - d2l (dadd (l2d x) (l2d y)))) = some .eq := by
  obtain ⟨a, da, na⟩ := own_l2d x
  obtain ⟨b, db, nb⟩ := own_l2d y
  have b60 : own_R 1152921504606846976 := own_pw 60
  have b61 : own_R 2305843009213693952 := own_pw 61
  have b62 : own_R 4611686018427387904 := own_pw 62
  have b63 : own_R 9223372036854775808 := own_pw 63
  have ba := own_bd _ na b60 (by omega) (by omega)
  have bb := own_bd _ nb b60 (by omega) (by omega)
  have ra := own_N_R na
  have rb := own_N_R nb
  obtain ⟨s, ds, ns⟩ := own_dadd da db (by omega) (by omega)
  have bs := own_bd _ ns b61 (by omega) (by omega)
  obtain ⟨p, dp, np⟩ := own_dsub ds da (by omega) (by omega)
  have bp := own_bd _ np b62 (by omega) (by omega)
  obtain ⟨q, dq, nq⟩ := own_dsub ds dp (by omega) (by omega)
  have bq := own_bd _ nq b63 (by omega) (by omega)
  obtain ⟨u, du, nu⟩ := own_dsub da dq (by omega) (by omega)
  obtain ⟨v, dv, nv⟩ := own_dsub db dp (by omega) (by omega)
  have key := own_two ra rb ns np nq nu nv
  obtain ⟨t, dt, nt⟩ := own_dadd du dv (by omega) (by omega)
  have ea := own_d2l da (by omega) (by omega)
  have eb := own_d2l db (by omega) (by omega)
  have es := own_d2l ds (by omega) (by omega)
  have e1 : (d2l (l2d x) + d2l (l2d y)).toInt = a + b := by
    rw [Int64.toInt_add, ea, eb]; exact Int.bmod_eq_of_le (by omega) (by omega)
  have e2 : (d2l (l2d x) + d2l (l2d y) - d2l (dadd (l2d x) (l2d y))).toInt = a + b - s := by
    rw [Int64.toInt_sub, e1, es]; exact Int.bmod_eq_of_le (by omega) (by omega)
  obtain ⟨w, dw, nw⟩ := own_l2d (d2l (l2d x) + d2l (l2d y) - d2l (dadd (l2d x) (l2d y)))
  rw [e2, ← key] at nw
  have rt : own_R (u + v) := by rw [key]; exact own_err ra rb ns
  have ew := own_N_fun nt rt nw
  subst ew
  exact ⟨own_nan ds, own_nan dp, own_nan dq, own_nan du, own_nan dv, own_nan dt, own_dcmp dt dw⟩
end OwnFl
theorem own_shr {z B : Int} (n : Nat) (hB : 0 < B) (h1 : -B ≤ z) (h2 : z < B) : -B ≤ z >>> n ∧ z >>> n < B := by
  rw [Int.shiftRight_eq_div_pow]
  have hp : (1 : Int) ≤ ((2 ^ n : Nat) : Int) := by have := Nat.two_pow_pos n; omega
  generalize ((2 ^ n : Nat) : Int) = P at *
  have e : B * 1 ≤ B * P := Int.mul_le_mul_of_nonneg_left hp (by omega)
  constructor
  · refine (Int.le_ediv_iff_mul_le (by omega)).mpr ?_
    rw [Int.neg_mul]; omega
  · exact (Int.ediv_lt_iff_lt_mul (by omega)).mpr (by omega)
theorem own_shi (z n : Int64) : (z >>> n).toInt = z.toInt >>> (n.toBitVec.smod 64).toNat := by
  rw [← Int64.toInt_toBitVec, Int64.toBitVec_shiftRight, BitVec.sshiftRight_eq', BitVec.toInt_sshiftRight, Int64.toInt_toBitVec]
theorem own_sh (z n : Int64) {B : Int} (hB : 0 < B) (h1 : -B ≤ z.toInt) (h2 : z.toInt < B) : -B ≤ (z >>> n).toInt ∧ (z >>> n).toInt < B := by
  rw [own_shi]
  exact own_shr _ hB h1 h2
theorem own_sh3 (z : Int64) : -1152921504606846976 ≤ (z >>> ((3 : Int32) &&& 0x3f).toInt64).toInt ∧ (z >>> ((3 : Int32) &&& 0x3f).toInt64).toInt < 1152921504606846976 := by
  have h1 := z.toInt_lt
  have h2 := z.le_toInt
  rw [own_shi, show ((((3 : Int32) &&& 0x3f).toInt64).toBitVec.smod 64).toNat = 3 by decide, Int.shiftRight_eq_div_pow]
  omega
theorem own_nn {x v : UInt64} (h : x = v) (n : Jvm.Free.Fl.NoNaN64 v) : Jvm.Free.Fl.NoNaN64 x := h ▸ n
theorem own_pure (x y : Int64) (hx1 : -1152921504606846976 ≤ x.toInt) (hx2 : x.toInt < 1152921504606846976) (hy1 : -1152921504606846976 ≤ y.toInt) (hy2 : y.toInt < 1152921504606846976) :
    ∃ a b sm pp q u v t ex : UInt64, FP.l2d x = a ∧ FP.l2d y = b ∧ FP.dadd a b = sm ∧ FP.dsub sm a = pp ∧ FP.dsub sm pp = q ∧ FP.dsub a q = u ∧ FP.dsub b pp = v ∧ FP.dadd u v = t ∧
      Jvm.Free.Fl.NoNaN64 sm ∧ Jvm.Free.Fl.NoNaN64 pp ∧ Jvm.Free.Fl.NoNaN64 q ∧ Jvm.Free.Fl.NoNaN64 u ∧ Jvm.Free.Fl.NoNaN64 v ∧ Jvm.Free.Fl.NoNaN64 t ∧
      FP.l2d (FP.d2l a + FP.d2l b - FP.d2l sm) = ex ∧ Jvm.Op.cmpValue (FP.dcmp t ex) .l = (0 : Int32) := by
  obtain ⟨k1, k2, k3, k4, k5, k6, k7⟩ := own_law x y hx1 hx2 hy1 hy2
  have N := fun (z : UInt64) (h : Jvm.FP.Core.val64 z ≠ .nan) => Jvm.Free.Fl.val64_no.mpr h
  exact ⟨_, _, _, _, _, _, _, _, _, rfl, rfl, rfl, rfl, rfl, rfl, rfl, rfl, N _ k1, N _ k2, N _ k3, N _ k4, N _ k5, N _ k6, rfl, congrArg (fun z => Jvm.Op.cmpValue z .l) k7⟩
end Jvm.Pilot.@@N@@
namespace Jvm.Pilot.@@N@@
open Jvm Jvm.ClassFile Sem Op Lib Jvm.Free Jvm.Stand Jvm.LawKit Jvm.RoadKit Bundle Jvm.Pilot.@@N@@.Jvm.D
def Done (p : Program) (e : Env) (below : List Frame) (P : State → Outcome → Prop) (A : State) : Prop := ∃ s₂ o, Steps p.tables e below A s₂ ∧ s₂.status = .running ∧ Ended s₂ below o ∧ P s₂ o
theorem Done.st {p : Program} {e : Env} {below : List Frame} {P : State → Outcome → Prop} {A B : State} (k : ∀ t, Steps p.tables e below B t → Steps p.tables e below A t) (h : Done p e below P B) : Done p e below P A := by
  obtain ⟨s₂, o, h1, h2⟩ := h; exact ⟨s₂, o, k _ h1, h2⟩
theorem Done.fin {p : Program} {e : Env} {below : List Frame} {P : State → Outcome → Prop} {A U : State} {o : Outcome} (k : Steps p.tables e below A U) (h1 : U.status = .running) (h2 : Ended U below o) (h3 : P U o) : Done p e below P A := ⟨U, o, k, h1, h2, h3⟩
theorem d1_0 : decode prog_31_method_19_code 0 = .ok (.dload 4, 2) := by decide +kernel
theorem d1_2 : decode prog_31_method_19_code 2 = .ok (.dload_n 0, 1) := by decide +kernel
theorem d1_3 : decode prog_31_method_19_code 3 = .ok (.dsub, 1) := by decide +kernel
theorem d1_4 : decode prog_31_method_19_code 4 = .ok (.dstore 6, 2) := by decide +kernel
theorem d1_6 : decode prog_31_method_19_code 6 = .ok (.dload 4, 2) := by decide +kernel
theorem d1_8 : decode prog_31_method_19_code 8 = .ok (.dload 6, 2) := by decide +kernel
theorem d1_10 : decode prog_31_method_19_code 10 = .ok (.dsub, 1) := by decide +kernel
theorem d1_11 : decode prog_31_method_19_code 11 = .ok (.dstore 8, 2) := by decide +kernel
theorem d1_13 : decode prog_31_method_19_code 13 = .ok (.dload_n 0, 1) := by decide +kernel
theorem d1_14 : decode prog_31_method_19_code 14 = .ok (.dload 8, 2) := by decide +kernel
theorem d1_16 : decode prog_31_method_19_code 16 = .ok (.dsub, 1) := by decide +kernel
theorem d1_17 : decode prog_31_method_19_code 17 = .ok (.dload_n 2, 1) := by decide +kernel
theorem d1_18 : decode prog_31_method_19_code 18 = .ok (.dload 6, 2) := by decide +kernel
theorem d1_20 : decode prog_31_method_19_code 20 = .ok (.dsub, 1) := by decide +kernel
theorem d1_21 : decode prog_31_method_19_code 21 = .ok (.dadd, 1) := by decide +kernel
theorem d1_22 : decode prog_31_method_19_code 22 = .ok (.dreturn, 1) := by decide +kernel
theorem pn_0 : plainName "com/example/libbuchi/libbuchi/check/Quotient" = true := by first | (simp [plainName, overriddenIn]; done) | decide +kernel
theorem pn_1 : plainName "com/example/libbuchi/libbuchi/check/QuotientRoundingErrorPinLaw" = true := by first | (simp [plainName, overriddenIn]; done) | decide +kernel
theorem pd_0 : parseMethodDescriptor "(DDD)D" = some ⟨[.double, .double, .double], some .double⟩ := by decide +kernel
theorem ef_rm1 (m : MethodId) (a : UInt64) (b : UInt64) (sm : UInt64) : entryFrame m #[(.double a), (.double b), (.double sm)] 10 = mkF m 0 #[.val (.double a), .second, .val (.double b), .second, .val (.double sm), .second, .unset, .unset, .unset, .unset] [] := by first | (simp [entryFrame, mkF, argsToLocals, Value.category]; done) | rfl
def Qrm1 (Z : State) (a : UInt64) (b : UInt64) (sm : UInt64) (pp : UInt64) (q : UInt64) (u : UInt64) (w : UInt64) (t : UInt64) (h0 : Heap) (n0 : Nat) (v : Option Value) (h : Heap) (L : List Loc) : Prop := v = some (.double t) ∧ Fr n0 L ∧ h = h0
def Prm1 (s : State) (Z : State) (a : UInt64) (b : UInt64) (sm : UInt64) (pp : UInt64) (q : UInt64) (u : UInt64) (w : UInt64) (t : UInt64) (h0 : Heap) (n0 : Nat) : State → Outcome → Prop := fun U' o => ∃ v L, o = .returned v ∧ Qrm1 Z a b sm pp q u w t h0 n0 v U'.heap L ∧ FrameEnd s o U' L ({ frames := 0, cells := 0, slots := 0, locals := 0 } : Room).cells ({ frames := 0, cells := 0, slots := 0, locals := 0 } : Room).slots
set_option maxRecDepth 65536 in
set_option maxHeartbeats 40000000 in
theorem rm1 (l : Launch) (Z : State) (a0 : Array Value) (hw : ∀ d ∈ tables_1, d.before a0 Z = true) (ws : List Jvm.Cond) (a : UInt64) (b : UInt64) (sm : UInt64) (pp : UInt64) (q : UInt64) (u : UInt64) (w : UInt64) (t : UInt64) (h0 : Heap) (n0 : Nat) (Z0 : n0 ≤ h0.size) (hq1 : FP.dsub sm a = pp) (hq2 : FP.dsub sm pp = q) (hq3 : FP.dsub a q = u) (hq4 : FP.dsub b pp = w) (hq5 : FP.dadd u w = t) (nq1 : Jvm.Free.Fl.NoNaN64 pp) (nq2 : Jvm.Free.Fl.NoNaN64 q) (nq3 : Jvm.Free.Fl.NoNaN64 u) (nq4 : Jvm.Free.Fl.NoNaN64 w) (nq5 : Jvm.Free.Fl.NoNaN64 t) :
    MetFree l (⟨"com/example/libbuchi/libbuchi/check/Quotient", "roundingError", "(DDD)D"⟩ : MethodName) (head1 (Jvm.Cond.code (⟨"com/example/libbuchi/libbuchi/check/Quotient", "roundingError", "(DDD)D"⟩ : MethodName) prog_31_method_19_code 10 (some .double) :: ws) ({ frames := 0, cells := 0, slots := 0, locals := 0 } : Room)) (fun aa U => aa = #[(.double a), (.double b), (.double sm)] ∧ Z.Warmed39 U.vm ∧ U.heap = h0) (fun _ _ _ _ _ => True) (fun _ U o U' => ∃ v L, o = .returned v ∧ Qrm1 Z a b sm pp q u w t h0 n0 v U'.heap L ∧ FrameEnd U o U' L ({ frames := 0, cells := 0, slots := 0, locals := 0 } : Room).cells ({ frames := 0, cells := 0, slots := 0, locals := 0 } : Room).slots) := by
  refine MetFree.of_bodySF (plainFor_of_name pn_0) hisR ?_
  intro p e s m args below meth c s₁ Bd hml0 hP hK
  obtain ⟨rfl, hZ, hh⟩ := hP
  have hx := Bd.exec
  have hlk : meth.locks = false := by first | exact BodyLoose.notSynchronized Bd | exact Body.notSynchronized Bd
  have hby := Bd.bytes
  have hml : c.maxLocals = 10 := hml0
  have hown : s.vm.findClass "com/example/libbuchi/libbuchi/check/Quotient" = some m.cls := findClass_of_methodNamed Bd.named
  have hnm := (name_of_methodNamed Bd.named Bd.method).1
  have X0 : Stand p l e ({ frames := 0, cells := 0, slots := 0, locals := 0 } : Room) s m #[(.double a), (.double b), (.double sm)] below meth c s₁ [] 0 0 := Stand.of_body Bd
  have e0 : s₁.heap = h0 := by rw [← hh, Bd.state]; rfl
  have N0 := Fr.nil n0
  show Done p e below (Prm1 s Z a b sm pp q u w t h0 n0) (s₁.setTop (entryFrame m #[(.double a), (.double b), (.double sm)] 10))
  refine Done.st (B := s₁.setTop (mkF m 0 #[.val (.double a), .second, .val (.double b), .second, .val (.double sm), .second, .unset, .unset, .unset, .unset] [])) (fun _ k => castTop (ef_rm1 m a b sm) k) ?_
  refine Done.st (B := s₁.setTop (mkF m 2 #[.val (.double a), .second, .val (.double b), .second, .val (.double sm), .second, .unset, .unset, .unset, .unset] [(.double sm)])) (fun _ k => XS.dload X0.here hx rfl (hb hby d1_0) rfl k) ?_
  refine Done.st (B := s₁.setTop (mkF m 3 #[.val (.double a), .second, .val (.double b), .second, .val (.double sm), .second, .unset, .unset, .unset, .unset] [(.double a), (.double sm)])) (fun _ k => XS.dloadN X0.here hx rfl (hb hby d1_2) rfl k) ?_
  refine Done.st (B := s₁.setTop (mkF m 4 #[.val (.double a), .second, .val (.double b), .second, .val (.double sm), .second, .unset, .unset, .unset, .unset] [(.double pp)])) (fun _ k => XS.dsubS X0.here hx rfl (hb hby d1_3) rfl (own_nn hq1 nq1) hq1 k) ?_
  refine Done.st (B := s₁.setTop (mkF m 6 #[.val (.double a), .second, .val (.double b), .second, .val (.double sm), .second, .val (.double pp), .second, .unset, .unset] [])) (fun _ k => XS.dstore X0.here hx rfl (hb hby d1_4) rfl (l' := #[.val (.double a), .second, .val (.double b), .second, .val (.double sm), .second, .val (.double pp), .second, .unset, .unset]) rfl k) ?_
  refine Done.st (B := s₁.setTop (mkF m 8 #[.val (.double a), .second, .val (.double b), .second, .val (.double sm), .second, .val (.double pp), .second, .unset, .unset] [(.double sm)])) (fun _ k => XS.dload X0.here hx rfl (hb hby d1_6) rfl k) ?_
  refine Done.st (B := s₁.setTop (mkF m 10 #[.val (.double a), .second, .val (.double b), .second, .val (.double sm), .second, .val (.double pp), .second, .unset, .unset] [(.double pp), (.double sm)])) (fun _ k => XS.dload X0.here hx rfl (hb hby d1_8) rfl k) ?_
  refine Done.st (B := s₁.setTop (mkF m 11 #[.val (.double a), .second, .val (.double b), .second, .val (.double sm), .second, .val (.double pp), .second, .unset, .unset] [(.double q)])) (fun _ k => XS.dsubS X0.here hx rfl (hb hby d1_10) rfl (own_nn hq2 nq2) hq2 k) ?_
  refine Done.st (B := s₁.setTop (mkF m 13 #[.val (.double a), .second, .val (.double b), .second, .val (.double sm), .second, .val (.double pp), .second, .val (.double q), .second] [])) (fun _ k => XS.dstore X0.here hx rfl (hb hby d1_11) rfl (l' := #[.val (.double a), .second, .val (.double b), .second, .val (.double sm), .second, .val (.double pp), .second, .val (.double q), .second]) rfl k) ?_
  refine Done.st (B := s₁.setTop (mkF m 14 #[.val (.double a), .second, .val (.double b), .second, .val (.double sm), .second, .val (.double pp), .second, .val (.double q), .second] [(.double a)])) (fun _ k => XS.dloadN X0.here hx rfl (hb hby d1_13) rfl k) ?_
  refine Done.st (B := s₁.setTop (mkF m 16 #[.val (.double a), .second, .val (.double b), .second, .val (.double sm), .second, .val (.double pp), .second, .val (.double q), .second] [(.double q), (.double a)])) (fun _ k => XS.dload X0.here hx rfl (hb hby d1_14) rfl k) ?_
  refine Done.st (B := s₁.setTop (mkF m 17 #[.val (.double a), .second, .val (.double b), .second, .val (.double sm), .second, .val (.double pp), .second, .val (.double q), .second] [(.double u)])) (fun _ k => XS.dsubS X0.here hx rfl (hb hby d1_16) rfl (own_nn hq3 nq3) hq3 k) ?_
  refine Done.st (B := s₁.setTop (mkF m 18 #[.val (.double a), .second, .val (.double b), .second, .val (.double sm), .second, .val (.double pp), .second, .val (.double q), .second] [(.double b), (.double u)])) (fun _ k => XS.dloadN X0.here hx rfl (hb hby d1_17) rfl k) ?_
  refine Done.st (B := s₁.setTop (mkF m 20 #[.val (.double a), .second, .val (.double b), .second, .val (.double sm), .second, .val (.double pp), .second, .val (.double q), .second] [(.double pp), (.double b), (.double u)])) (fun _ k => XS.dload X0.here hx rfl (hb hby d1_18) rfl k) ?_
  refine Done.st (B := s₁.setTop (mkF m 21 #[.val (.double a), .second, .val (.double b), .second, .val (.double sm), .second, .val (.double pp), .second, .val (.double q), .second] [(.double w), (.double u)])) (fun _ k => XS.dsubS X0.here hx rfl (hb hby d1_20) rfl (own_nn hq4 nq4) hq4 k) ?_
  refine Done.st (B := s₁.setTop (mkF m 22 #[.val (.double a), .second, .val (.double b), .second, .val (.double sm), .second, .val (.double pp), .second, .val (.double q), .second] [(.double t)])) (fun _ k => XS.daddS X0.here hx rfl (hb hby d1_21) rfl (own_nn hq5 nq5) hq5 k) ?_
  obtain ⟨fs, hr, hrun, hended, hW, hsame⟩ := X0.leave (v := some (.double t)) (hlocks := hlk) (fun h => by rw [Bd.returns] at h; cases h)
  refine Done.fin (retD X0 hx Bd.returns (hb hby d1_22) hr) hrun hended ⟨_, _, rfl, ?_, ⟨_, rfl⟩, hW, hsame.mono (by decide) (by decide)⟩
  show Qrm1 Z a b sm pp q u w t h0 n0 _ s₁.heap _
  rw [e0]
  exact ⟨rfl, N0, rfl⟩
theorem ef_rm0 (m : MethodId) (x0 : Int64) (x1 : Int64) (x2 : Int32) : entryFrame m #[(.long x0), (.long x1), (.int x2)] maxLocals = mkF m 0 #[.val (.long x0), .second, .val (.long x1), .second, .val (.int x2), .unset, .unset, .unset, .unset, .unset, .unset, .unset, .unset, .unset, .unset, .unset, .unset, .unset, .unset] [] := by first | (simp [entryFrame, mkF, argsToLocals, Value.category, maxLocals]; done) | rfl
def Qrm0 (Z : State) (x0 : Int64) (x1 : Int64) (x2 : Int32) (h0 : Heap) (n0 : Nat) (v : Option Value) (h : Heap) (L : List Loc) : Prop := v = some (.int 1) ∧ Fr n0 L
def Prm0 (s : State) (Z : State) (x0 : Int64) (x1 : Int64) (x2 : Int32) (h0 : Heap) (n0 : Nat) : State → Outcome → Prop := fun U' o => ∃ v L, o = .returned v ∧ Qrm0 Z x0 x1 x2 h0 n0 v U'.heap L ∧ FrameEnd s o U' L room_1.cells room_1.slots
set_option maxRecDepth 65536 in
set_option maxHeartbeats 40000000 in
theorem rm0 (l : Launch) (Z : State) (a0 : Array Value) (hw : ∀ d ∈ tables_1, d.before a0 Z = true) (ws : List Jvm.Cond) (x0 : Int64) (x1 : Int64) (x2 : Int32) (h0 : Heap) (n0 : Nat) (Z0 : n0 ≤ h0.size) :
    MetFree l x (head1 (Jvm.Cond.code x code maxLocals ret :: ws) room_1) (fun aa U => aa = #[(.long x0), (.long x1), (.int x2)] ∧ Z.Warmed39 U.vm ∧ U.heap = h0) (fun _ _ _ _ _ => True) (fun _ U o U' => ∃ v L, o = .returned v ∧ Qrm0 Z x0 x1 x2 h0 n0 v U'.heap L ∧ FrameEnd U o U' L room_1.cells room_1.slots) := by
  refine MetFree.of_bodySF (plainFor_of_name pn_1) hisR ?_
  intro p e s m args below meth c s₁ Bd hml0 hP hK
  obtain ⟨rfl, hZ, hh⟩ := hP
  have hx := Bd.exec
  have hlk : meth.locks = false := by first | exact BodyLoose.notSynchronized Bd | exact Body.notSynchronized Bd
  have hby := Bd.bytes
  have hml : c.maxLocals = 19 := hml0
  have hown : s.vm.findClass "com/example/libbuchi/libbuchi/check/QuotientRoundingErrorPinLaw" = some m.cls := findClass_of_methodNamed Bd.named
  have hnm := (name_of_methodNamed Bd.named Bd.method).1
  have X0 : Stand p l e room_1 s m #[(.long x0), (.long x1), (.int x2)] below meth c s₁ [] 0 0 := Stand.of_body Bd
  have e0 : s₁.heap = h0 := by rw [← hh, Bd.state]; rfl
  have N0 := Fr.nil n0
  show Done p e below (Prm0 s Z x0 x1 x2 h0 n0) (s₁.setTop (entryFrame m #[(.long x0), (.long x1), (.int x2)] maxLocals))
  refine Done.st (B := s₁.setTop (mkF m 0 #[.val (.long x0), .second, .val (.long x1), .second, .val (.int x2), .unset, .unset, .unset, .unset, .unset, .unset, .unset, .unset, .unset, .unset, .unset, .unset, .unset, .unset] [])) (fun _ k => castTop (ef_rm0 m x0 x1 x2) k) ?_
  obtain ⟨a, b, sm, pp, q, u, v, t, ex, dv_a, dv_b, hq0, hq1, hq2, hq3, hq4, hq5, nq0, nq1, nq2, nq3, nq4, nq5, hex, hcm⟩ := own_pure (x0 >>> ((3 : Int32) &&& 0x3f).toInt64) ((x1 >>> ((3 : Int32) &&& 0x3f).toInt64) >>> ((x2 &&& (63 : Int32)) &&& 0x3f).toInt64) (own_sh3 x0).1 (own_sh3 x0).2 (own_sh _ _ (by decide) (own_sh3 x1).1 (own_sh3 x1).2).1 (own_sh _ _ (by decide) (own_sh3 x1).1 (own_sh3 x1).2).2
  refine Done.st (B := s₁.setTop (mkF m 1 #[.val (.long x0), .second, .val (.long x1), .second, .val (.int x2), .unset, .unset, .unset, .unset, .unset, .unset, .unset, .unset, .unset, .unset, .unset, .unset, .unset, .unset] [(.long x0)])) (fun _ k => XS.lloadN X0.here hx rfl (hb hby at_0) rfl k) ?_
  refine Done.st (B := s₁.setTop (mkF m 2 #[.val (.long x0), .second, .val (.long x1), .second, .val (.int x2), .unset, .unset, .unset, .unset, .unset, .unset, .unset, .unset, .unset, .unset, .unset, .unset, .unset, .unset] [(.int (3 : Int32)), (.long x0)])) (fun _ k => XS.iconst X0.here hx rfl (hb hby at_1) k) ?_
  refine Done.st (B := s₁.setTop (mkF m 3 #[.val (.long x0), .second, .val (.long x1), .second, .val (.int x2), .unset, .unset, .unset, .unset, .unset, .unset, .unset, .unset, .unset, .unset, .unset, .unset, .unset, .unset] [(.long (x0 >>> ((3 : Int32) &&& 0x3f).toInt64))])) (fun _ k => XS.lshr X0.here hx rfl (hb hby at_2) rfl k) ?_
  refine Done.st (B := s₁.setTop (mkF m 4 #[.val (.long x0), .second, .val (.long x1), .second, .val (.int x2), .unset, .unset, .unset, .unset, .unset, .unset, .unset, .unset, .unset, .unset, .unset, .unset, .unset, .unset] [(.double a)])) (fun _ k => XS.l2dS X0.here hx rfl (hb hby at_3) rfl dv_a k) ?_
  refine Done.st (B := s₁.setTop (mkF m 6 #[.val (.long x0), .second, .val (.long x1), .second, .val (.int x2), .val (.double a), .second, .unset, .unset, .unset, .unset, .unset, .unset, .unset, .unset, .unset, .unset, .unset, .unset] [])) (fun _ k => XS.dstore X0.here hx rfl (hb hby at_4) rfl (l' := #[.val (.long x0), .second, .val (.long x1), .second, .val (.int x2), .val (.double a), .second, .unset, .unset, .unset, .unset, .unset, .unset, .unset, .unset, .unset, .unset, .unset, .unset]) rfl k) ?_
  refine Done.st (B := s₁.setTop (mkF m 7 #[.val (.long x0), .second, .val (.long x1), .second, .val (.int x2), .val (.double a), .second, .unset, .unset, .unset, .unset, .unset, .unset, .unset, .unset, .unset, .unset, .unset, .unset] [(.long x1)])) (fun _ k => XS.lloadN X0.here hx rfl (hb hby at_6) rfl k) ?_
  refine Done.st (B := s₁.setTop (mkF m 8 #[.val (.long x0), .second, .val (.long x1), .second, .val (.int x2), .val (.double a), .second, .unset, .unset, .unset, .unset, .unset, .unset, .unset, .unset, .unset, .unset, .unset, .unset] [(.int (3 : Int32)), (.long x1)])) (fun _ k => XS.iconst X0.here hx rfl (hb hby at_7) k) ?_
  refine Done.st (B := s₁.setTop (mkF m 9 #[.val (.long x0), .second, .val (.long x1), .second, .val (.int x2), .val (.double a), .second, .unset, .unset, .unset, .unset, .unset, .unset, .unset, .unset, .unset, .unset, .unset, .unset] [(.long (x1 >>> ((3 : Int32) &&& 0x3f).toInt64))])) (fun _ k => XS.lshr X0.here hx rfl (hb hby at_8) rfl k) ?_
  refine Done.st (B := s₁.setTop (mkF m 11 #[.val (.long x0), .second, .val (.long x1), .second, .val (.int x2), .val (.double a), .second, .unset, .unset, .unset, .unset, .unset, .unset, .unset, .unset, .unset, .unset, .unset, .unset] [(.int x2), (.long (x1 >>> ((3 : Int32) &&& 0x3f).toInt64))])) (fun _ k => XS.iload X0.here hx rfl (hb hby at_9) rfl k) ?_
  refine Done.st (B := s₁.setTop (mkF m 13 #[.val (.long x0), .second, .val (.long x1), .second, .val (.int x2), .val (.double a), .second, .unset, .unset, .unset, .unset, .unset, .unset, .unset, .unset, .unset, .unset, .unset, .unset] [(.int (63 : Int32)), (.int x2), (.long (x1 >>> ((3 : Int32) &&& 0x3f).toInt64))])) (fun _ k => XS.bipush X0.here hx rfl (hb hby at_11) k) ?_
  refine Done.st (B := s₁.setTop (mkF m 14 #[.val (.long x0), .second, .val (.long x1), .second, .val (.int x2), .val (.double a), .second, .unset, .unset, .unset, .unset, .unset, .unset, .unset, .unset, .unset, .unset, .unset, .unset] [(.int (x2 &&& (63 : Int32))), (.long (x1 >>> ((3 : Int32) &&& 0x3f).toInt64))])) (fun _ k => XS.iand X0.here hx rfl (hb hby at_13) rfl k) ?_
  refine Done.st (B := s₁.setTop (mkF m 15 #[.val (.long x0), .second, .val (.long x1), .second, .val (.int x2), .val (.double a), .second, .unset, .unset, .unset, .unset, .unset, .unset, .unset, .unset, .unset, .unset, .unset, .unset] [(.long ((x1 >>> ((3 : Int32) &&& 0x3f).toInt64) >>> ((x2 &&& (63 : Int32)) &&& 0x3f).toInt64))])) (fun _ k => XS.lshr X0.here hx rfl (hb hby at_14) rfl k) ?_
  refine Done.st (B := s₁.setTop (mkF m 16 #[.val (.long x0), .second, .val (.long x1), .second, .val (.int x2), .val (.double a), .second, .unset, .unset, .unset, .unset, .unset, .unset, .unset, .unset, .unset, .unset, .unset, .unset] [(.double b)])) (fun _ k => XS.l2dS X0.here hx rfl (hb hby at_15) rfl dv_b k) ?_
  refine Done.st (B := s₁.setTop (mkF m 18 #[.val (.long x0), .second, .val (.long x1), .second, .val (.int x2), .val (.double a), .second, .val (.double b), .second, .unset, .unset, .unset, .unset, .unset, .unset, .unset, .unset, .unset, .unset] [])) (fun _ k => XS.dstore X0.here hx rfl (hb hby at_16) rfl (l' := #[.val (.long x0), .second, .val (.long x1), .second, .val (.int x2), .val (.double a), .second, .val (.double b), .second, .unset, .unset, .unset, .unset, .unset, .unset, .unset, .unset, .unset, .unset]) rfl k) ?_
  refine Done.st (B := s₁.setTop (mkF m 20 #[.val (.long x0), .second, .val (.long x1), .second, .val (.int x2), .val (.double a), .second, .val (.double b), .second, .unset, .unset, .unset, .unset, .unset, .unset, .unset, .unset, .unset, .unset] [(.double a)])) (fun _ k => XS.dload X0.here hx rfl (hb hby at_18) rfl k) ?_
  refine Done.st (B := s₁.setTop (mkF m 22 #[.val (.long x0), .second, .val (.long x1), .second, .val (.int x2), .val (.double a), .second, .val (.double b), .second, .unset, .unset, .unset, .unset, .unset, .unset, .unset, .unset, .unset, .unset] [(.double b), (.double a)])) (fun _ k => XS.dload X0.here hx rfl (hb hby at_20) rfl k) ?_
  refine Done.st (B := s₁.setTop (mkF m 23 #[.val (.long x0), .second, .val (.long x1), .second, .val (.int x2), .val (.double a), .second, .val (.double b), .second, .unset, .unset, .unset, .unset, .unset, .unset, .unset, .unset, .unset, .unset] [(.double sm)])) (fun _ k => XS.daddS X0.here hx rfl (hb hby at_22) rfl (own_nn hq0 nq0) hq0 k) ?_
  refine Done.st (B := s₁.setTop (mkF m 25 #[.val (.long x0), .second, .val (.long x1), .second, .val (.int x2), .val (.double a), .second, .val (.double b), .second, .val (.double sm), .second, .unset, .unset, .unset, .unset, .unset, .unset, .unset, .unset] [])) (fun _ k => XS.dstore X0.here hx rfl (hb hby at_23) rfl (l' := #[.val (.long x0), .second, .val (.long x1), .second, .val (.int x2), .val (.double a), .second, .val (.double b), .second, .val (.double sm), .second, .unset, .unset, .unset, .unset, .unset, .unset, .unset, .unset]) rfl k) ?_
  refine Done.st (B := s₁.setTop (mkF m 27 #[.val (.long x0), .second, .val (.long x1), .second, .val (.int x2), .val (.double a), .second, .val (.double b), .second, .val (.double sm), .second, .unset, .unset, .unset, .unset, .unset, .unset, .unset, .unset] [(.double a)])) (fun _ k => XS.dload X0.here hx rfl (hb hby at_25) rfl k) ?_
  refine Done.st (B := s₁.setTop (mkF m 29 #[.val (.long x0), .second, .val (.long x1), .second, .val (.int x2), .val (.double a), .second, .val (.double b), .second, .val (.double sm), .second, .unset, .unset, .unset, .unset, .unset, .unset, .unset, .unset] [(.double b), (.double a)])) (fun _ k => XS.dload X0.here hx rfl (hb hby at_27) rfl k) ?_
  refine Done.st (B := s₁.setTop (mkF m 31 #[.val (.long x0), .second, .val (.long x1), .second, .val (.int x2), .val (.double a), .second, .val (.double b), .second, .val (.double sm), .second, .unset, .unset, .unset, .unset, .unset, .unset, .unset, .unset] [(.double sm), (.double b), (.double a)])) (fun _ k => XS.dload X0.here hx rfl (hb hby at_29) rfl k) ?_
  obtain ⟨_, _, ⟨T1, L1, k1, n1⟩, -, X1, ⟨Lc1, hQ1, l1, y1, z1⟩, st1⟩ := Jvm.LawKit.callS X0 hx (y := (⟨"com/example/libbuchi/libbuchi/check/Quotient", "roundingError", "(DDD)D"⟩ : MethodName)) hown (mvT hZ (hw _ (List.mem_of_getElem? (i := 0) rfl))) (mvT hZ (hw _ (List.mem_of_getElem? (i := 1) rfl))) (mvT hZ (hw _ (List.mem_of_getElem? (i := 2) rfl))) (mvT hZ (hw _ (List.mem_of_getElem? (i := 3) rfl))) (by decide) (backOf (W := 0) (rm1 l Z a0 hw [] a b sm pp q u v t h0 n0 Z0 hq1 hq2 hq3 hq4 hq5 nq1 nq2 nq3 nq4 nq5) hZ (hw _ (List.mem_of_getElem? (i := 3) rfl)) (hw _ (List.mem_of_getElem? (i := 2) rfl)) (by decide) (by decide)) (g := (mkF m 31 #[.val (.long x0), .second, .val (.long x1), .second, .val (.int x2), .val (.double a), .second, .val (.double b), .second, .val (.double sm), .second, .unset, .unset, .unset, .unset, .unset, .unset, .unset, .unset] [(.double sm), (.double b), (.double a)])) rfl (by rw [hml]; rfl) (argsL := [(.double a), (.double b), (.double sm)]) (rest := []) (lenOf pd_0 rfl) rfl (by show 2 * 0 + _ ≤ _; exact Nat.le_of_eq rfl) (hb hby at_31) (fun _ _ => ⟨rfl, e0, (by decide : 0 + 0 ≤ _), (by decide : 0 + 0 ≤ _)⟩)
  dsimp only [Pt.U, Pt.locs, Pt.cells, Pt.slots] at X1 l1 y1 z1 st1 hQ1
  subst l1 y1 z1
  obtain ⟨rfl, N1q, e1⟩ := hQ1
  have N1 := Fr.app N0 N1q
  refine Done.st (B := T1.setTop (mkF m 34 #[.val (.long x0), .second, .val (.long x1), .second, .val (.int x2), .val (.double a), .second, .val (.double b), .second, .val (.double sm), .second, .unset, .unset, .unset, .unset, .unset, .unset, .unset, .unset] [(.double t)])) (fun _ k => st1 _ k) ?_
  refine Done.st (B := T1.setTop (mkF m 36 #[.val (.long x0), .second, .val (.long x1), .second, .val (.int x2), .val (.double a), .second, .val (.double b), .second, .val (.double sm), .second, .val (.double t), .second, .unset, .unset, .unset, .unset, .unset, .unset] [])) (fun _ k => XS.dstore X1.here hx rfl (hb hby at_34) rfl (l' := #[.val (.long x0), .second, .val (.long x1), .second, .val (.int x2), .val (.double a), .second, .val (.double b), .second, .val (.double sm), .second, .val (.double t), .second, .unset, .unset, .unset, .unset, .unset, .unset]) rfl k) ?_
  refine Done.st (B := T1.setTop (mkF m 38 #[.val (.long x0), .second, .val (.long x1), .second, .val (.int x2), .val (.double a), .second, .val (.double b), .second, .val (.double sm), .second, .val (.double t), .second, .unset, .unset, .unset, .unset, .unset, .unset] [(.double a)])) (fun _ k => XS.dload X1.here hx rfl (hb hby at_36) rfl k) ?_
  refine Done.st (B := T1.setTop (mkF m 39 #[.val (.long x0), .second, .val (.long x1), .second, .val (.int x2), .val (.double a), .second, .val (.double b), .second, .val (.double sm), .second, .val (.double t), .second, .unset, .unset, .unset, .unset, .unset, .unset] [(.long (FP.d2l a))])) (fun _ k => XS.d2lS X1.here hx rfl (hb hby at_38) rfl rfl k) ?_
  refine Done.st (B := T1.setTop (mkF m 41 #[.val (.long x0), .second, .val (.long x1), .second, .val (.int x2), .val (.double a), .second, .val (.double b), .second, .val (.double sm), .second, .val (.double t), .second, .unset, .unset, .unset, .unset, .unset, .unset] [(.double b), (.long (FP.d2l a))])) (fun _ k => XS.dload X1.here hx rfl (hb hby at_39) rfl k) ?_
  refine Done.st (B := T1.setTop (mkF m 42 #[.val (.long x0), .second, .val (.long x1), .second, .val (.int x2), .val (.double a), .second, .val (.double b), .second, .val (.double sm), .second, .val (.double t), .second, .unset, .unset, .unset, .unset, .unset, .unset] [(.long (FP.d2l b)), (.long (FP.d2l a))])) (fun _ k => XS.d2lS X1.here hx rfl (hb hby at_41) rfl rfl k) ?_
  refine Done.st (B := T1.setTop (mkF m 43 #[.val (.long x0), .second, .val (.long x1), .second, .val (.int x2), .val (.double a), .second, .val (.double b), .second, .val (.double sm), .second, .val (.double t), .second, .unset, .unset, .unset, .unset, .unset, .unset] [(.long ((FP.d2l a) + (FP.d2l b)))])) (fun _ k => XS.ladd X1.here hx rfl (hb hby at_42) rfl k) ?_
  refine Done.st (B := T1.setTop (mkF m 45 #[.val (.long x0), .second, .val (.long x1), .second, .val (.int x2), .val (.double a), .second, .val (.double b), .second, .val (.double sm), .second, .val (.double t), .second, .val (.long ((FP.d2l a) + (FP.d2l b))), .second, .unset, .unset, .unset, .unset] [])) (fun _ k => XS.lstore X1.here hx rfl (hb hby at_43) rfl (l' := #[.val (.long x0), .second, .val (.long x1), .second, .val (.int x2), .val (.double a), .second, .val (.double b), .second, .val (.double sm), .second, .val (.double t), .second, .val (.long ((FP.d2l a) + (FP.d2l b))), .second, .unset, .unset, .unset, .unset]) rfl k) ?_
  refine Done.st (B := T1.setTop (mkF m 47 #[.val (.long x0), .second, .val (.long x1), .second, .val (.int x2), .val (.double a), .second, .val (.double b), .second, .val (.double sm), .second, .val (.double t), .second, .val (.long ((FP.d2l a) + (FP.d2l b))), .second, .unset, .unset, .unset, .unset] [(.double sm)])) (fun _ k => XS.dload X1.here hx rfl (hb hby at_45) rfl k) ?_
  refine Done.st (B := T1.setTop (mkF m 48 #[.val (.long x0), .second, .val (.long x1), .second, .val (.int x2), .val (.double a), .second, .val (.double b), .second, .val (.double sm), .second, .val (.double t), .second, .val (.long ((FP.d2l a) + (FP.d2l b))), .second, .unset, .unset, .unset, .unset] [(.long (FP.d2l sm))])) (fun _ k => XS.d2lS X1.here hx rfl (hb hby at_47) rfl rfl k) ?_
  refine Done.st (B := T1.setTop (mkF m 50 #[.val (.long x0), .second, .val (.long x1), .second, .val (.int x2), .val (.double a), .second, .val (.double b), .second, .val (.double sm), .second, .val (.double t), .second, .val (.long ((FP.d2l a) + (FP.d2l b))), .second, .val (.long (FP.d2l sm)), .second, .unset, .unset] [])) (fun _ k => XS.lstore X1.here hx rfl (hb hby at_48) rfl (l' := #[.val (.long x0), .second, .val (.long x1), .second, .val (.int x2), .val (.double a), .second, .val (.double b), .second, .val (.double sm), .second, .val (.double t), .second, .val (.long ((FP.d2l a) + (FP.d2l b))), .second, .val (.long (FP.d2l sm)), .second, .unset, .unset]) rfl k) ?_
  refine Done.st (B := T1.setTop (mkF m 52 #[.val (.long x0), .second, .val (.long x1), .second, .val (.int x2), .val (.double a), .second, .val (.double b), .second, .val (.double sm), .second, .val (.double t), .second, .val (.long ((FP.d2l a) + (FP.d2l b))), .second, .val (.long (FP.d2l sm)), .second, .unset, .unset] [(.long ((FP.d2l a) + (FP.d2l b)))])) (fun _ k => XS.lload X1.here hx rfl (hb hby at_50) rfl k) ?_
  refine Done.st (B := T1.setTop (mkF m 54 #[.val (.long x0), .second, .val (.long x1), .second, .val (.int x2), .val (.double a), .second, .val (.double b), .second, .val (.double sm), .second, .val (.double t), .second, .val (.long ((FP.d2l a) + (FP.d2l b))), .second, .val (.long (FP.d2l sm)), .second, .unset, .unset] [(.long (FP.d2l sm)), (.long ((FP.d2l a) + (FP.d2l b)))])) (fun _ k => XS.lload X1.here hx rfl (hb hby at_52) rfl k) ?_
  refine Done.st (B := T1.setTop (mkF m 55 #[.val (.long x0), .second, .val (.long x1), .second, .val (.int x2), .val (.double a), .second, .val (.double b), .second, .val (.double sm), .second, .val (.double t), .second, .val (.long ((FP.d2l a) + (FP.d2l b))), .second, .val (.long (FP.d2l sm)), .second, .unset, .unset] [(.long (((FP.d2l a) + (FP.d2l b)) - (FP.d2l sm)))])) (fun _ k => XS.lsub X1.here hx rfl (hb hby at_54) rfl k) ?_
  refine Done.st (B := T1.setTop (mkF m 56 #[.val (.long x0), .second, .val (.long x1), .second, .val (.int x2), .val (.double a), .second, .val (.double b), .second, .val (.double sm), .second, .val (.double t), .second, .val (.long ((FP.d2l a) + (FP.d2l b))), .second, .val (.long (FP.d2l sm)), .second, .unset, .unset] [(.double ex)])) (fun _ k => XS.l2dS X1.here hx rfl (hb hby at_55) rfl hex k) ?_
  refine Done.st (B := T1.setTop (mkF m 58 #[.val (.long x0), .second, .val (.long x1), .second, .val (.int x2), .val (.double a), .second, .val (.double b), .second, .val (.double sm), .second, .val (.double t), .second, .val (.long ((FP.d2l a) + (FP.d2l b))), .second, .val (.long (FP.d2l sm)), .second, .val (.double ex), .second] [])) (fun _ k => XS.dstore X1.here hx rfl (hb hby at_56) rfl (l' := #[.val (.long x0), .second, .val (.long x1), .second, .val (.int x2), .val (.double a), .second, .val (.double b), .second, .val (.double sm), .second, .val (.double t), .second, .val (.long ((FP.d2l a) + (FP.d2l b))), .second, .val (.long (FP.d2l sm)), .second, .val (.double ex), .second]) rfl k) ?_
  refine Done.st (B := T1.setTop (mkF m 60 #[.val (.long x0), .second, .val (.long x1), .second, .val (.int x2), .val (.double a), .second, .val (.double b), .second, .val (.double sm), .second, .val (.double t), .second, .val (.long ((FP.d2l a) + (FP.d2l b))), .second, .val (.long (FP.d2l sm)), .second, .val (.double ex), .second] [(.double t)])) (fun _ k => XS.dload X1.here hx rfl (hb hby at_58) rfl k) ?_
  refine Done.st (B := T1.setTop (mkF m 62 #[.val (.long x0), .second, .val (.long x1), .second, .val (.int x2), .val (.double a), .second, .val (.double b), .second, .val (.double sm), .second, .val (.double t), .second, .val (.long ((FP.d2l a) + (FP.d2l b))), .second, .val (.long (FP.d2l sm)), .second, .val (.double ex), .second] [(.double ex), (.double t)])) (fun _ k => XS.dload X1.here hx rfl (hb hby at_60) rfl k) ?_
  refine Done.st (B := T1.setTop (mkF m 63 #[.val (.long x0), .second, .val (.long x1), .second, .val (.int x2), .val (.double a), .second, .val (.double b), .second, .val (.double sm), .second, .val (.double t), .second, .val (.long ((FP.d2l a) + (FP.d2l b))), .second, .val (.long (FP.d2l sm)), .second, .val (.double ex), .second] [(.int (0 : Int32))])) (fun _ k => XS.dcmpS X1.here hx rfl (hb hby at_62) rfl hcm k) ?_
  refine Done.st (B := T1.setTop (mkF m 66 #[.val (.long x0), .second, .val (.long x1), .second, .val (.int x2), .val (.double a), .second, .val (.double b), .second, .val (.double sm), .second, .val (.double t), .second, .val (.long ((FP.d2l a) + (FP.d2l b))), .second, .val (.long (FP.d2l sm)), .second, .val (.double ex), .second] [])) (fun _ k => XS.ifNo X1.here hx rfl (hb hby at_63) rfl ((if0 _ _).trans (teq (rfl : (0 : Int32) = (0 : Int32))).2) k) ?_
  refine Done.st (B := T1.setTop (mkF m 67 #[.val (.long x0), .second, .val (.long x1), .second, .val (.int x2), .val (.double a), .second, .val (.double b), .second, .val (.double sm), .second, .val (.double t), .second, .val (.long ((FP.d2l a) + (FP.d2l b))), .second, .val (.long (FP.d2l sm)), .second, .val (.double ex), .second] [(.int (1 : Int32))])) (fun _ k => XS.iconst X1.here hx rfl (hb hby at_66) k) ?_
  refine Done.st (B := T1.setTop (mkF m 71 #[.val (.long x0), .second, .val (.long x1), .second, .val (.int x2), .val (.double a), .second, .val (.double b), .second, .val (.double sm), .second, .val (.double t), .second, .val (.long ((FP.d2l a) + (FP.d2l b))), .second, .val (.long (FP.d2l sm)), .second, .val (.double ex), .second] [(.int (1 : Int32))])) (fun _ k => XS.goto X1.here hx rfl (pc0 := 67) (pc' := 71) rfl (hb hby at_67) (by decide) (by decide) k) ?_
  obtain ⟨fs, hr, hrun, hended, hW, hsame⟩ := X1.leave (v := some (.int (1 : Int32))) (hlocks := hlk) (fun h => by rw [Bd.returns] at h; cases h)
  refine Done.fin (retN X1 hx (t := .boolean) Bd.returns (by simp) (hb hby at_71) hr) hrun hended ⟨_, _, rfl, ?_, ⟨_, rfl⟩, hW, hsame.mono (by decide) (by decide)⟩
  show Qrm0 Z x0 x1 x2 h0 n0 _ T1.heap _
  rw [e1]
  exact ⟨rfl, N1⟩
set_option maxRecDepth 65536 in
set_option maxHeartbeats 40000000 in
theorem comes_1 {Post : Tables → Env → Array Value → State → Outcome → State → Prop} (hpost : ∀ tb e args s v u, (limb_1_1.after args s (.returned v) u = true ∧ limb_1_2.after args s (.returned v) u = true ∧ True) → FrameEnd s (.returned v) u (Jvm.fieldLocs frame_1_writes args s ++ Jvm.arrayLocs frame_1_arrays args s ++ Jvm.staticLocs frame_1_statics s) 0 0 → Post tb e args s (.returned v) u) :
    ArmFor flags0 classFile x code maxLocals ret World_1 tables_1 room_1 Calls_1 rest_1 Pre_1 Post := by
  intro l hfl _ _ p e ha hc hk s m args below hf hA hF happ hP
  obtain ⟨hcalls, hrest, hpre⟩ := hP
  obtain ⟨-, -, -, hnamed, -, -, -, hat⟩ := (Spec.applies_iff hf).mp happ
  obtain ⟨hg, hn⟩ := and_e (Cond.before_iff.mp (show (Jvm.Cond.and given_1 narrow_1).before args s = true from hpre))
  obtain ⟨g1, g2⟩ := and_e hg
  obtain ⟨g3, g4⟩ := and_e g2
  obtain ⟨g5, g6⟩ := and_e g4
  obtain ⟨w0, w1, w2, rfl⟩ : ∃ w0 w1 w2 : Value, args = #[w0, w1, w2] := by
    have hs : args.size = 3 := by simpa [Cond.value, given_1] using g1
    obtain ⟨L⟩ := args
    match L, hs with
    | [w0, w1, w2], _ => exact ⟨w0, w1, w2, rfl⟩
  have hw := fun d (hd : d ∈ tables_1) => atoms_spec (ws := Jvm.Cond.code x code maxLocals ret :: tables_1) hat d (List.mem_cons_of_mem _ hd)
  have hfit : Fit s := fun {y c} hc i hi => by
    obtain ⟨ha, rfl⟩ := Array.getElem?_eq_some_iff.mp hc
    have q := List.all_eq_true.mp ((Array.all_eq_true_iff_forall_mem.mp hF) _ (Array.getElem_mem ha)) i (List.mem_range.mpr hi)
    simpa [Array.getElem?_eq_getElem hi] using q
  obtain ⟨i0, ei0⟩ := isL_v g3
  obtain rfl : w0 = (.long i0) := Option.some.inj ei0
  obtain ⟨i1, ei1⟩ := isL_v g5
  obtain rfl : w1 = (.long i1) := Option.some.inj ei1
  obtain ⟨i2, ei2⟩ := is_v g6
  obtain rfl : w2 = (.int i2) := Option.some.inj ei2
  obtain ⟨n, o, h1, h2, h3, _, L, rfl, ⟨rfl, N⟩, hq⟩ := rm0 l s _ hw tables_1 i0 i1 i2 s.heap s.heap.size (Nat.le_refl _)  p e ha hc hk s m _ below hf ((Spec.applies_iff_loose hf).mp happ).1 ⟨rfl, State.Warmed39.refl s, rfl⟩ trivial
  refine ⟨n, _, h1, h2, h3, hpost _ _ _ _ _ _ ⟨Cond.after_iff.mpr rfl, Cond.after_iff.mpr (eq_i res_at (Term.int_eval (1)) rfl), trivial⟩ ⟨hq.1, hq.2.1, (hq.2.2.sift fun y hy => Or.inr (N y hy)).mono (by decide) (by decide)⟩⟩
theorem main_1_1 : Claimed_1_1 := comes_1 fun _ _ _ _ _ _ h hF => ⟨h.1, hF⟩
theorem main_1_2 : Claimed_1_2 := comes_1 fun _ _ _ _ _ _ h hF => ⟨h.2.1, hF⟩
end Jvm.Pilot.@@N@@
namespace Jvm.Pilot.@@N@@
open Jvm Jvm.ClassFile Sem Op Lib Jvm.Free Jvm.Stand Jvm.Pilot.@@N@@.Jvm.D
/-! MADE BY PROGRAM (witnessworld.py) out of the Statement's table words and the real class files: 7 classes; the members and pool entries that the words name. The judged class is class 1, her method 1. -/
namespace start1
open Jvm.ClassFile
def u (s : String) : CpInfo := .utf8 (stringToUtf16 s)
/-- a pool by its gaps: so many unusable entries, then the entry; so many at the end -/
def gap : Nat → List CpInfo → List CpInfo
  | 0, r => r
  | n + 1, r => .unusable :: gap n r
def poolList (es : List (Nat × CpInfo)) (last : Nat) : List CpInfo := es.foldr (fun e r => gap e.1 (e.2 :: r)) (gap last [])
def pool (es : List (Nat × CpInfo)) (last : Nat) : Array CpInfo := ⟨poolList es last⟩
def fileOf (pool : Array CpInfo) (this : Nat) (attrs : Array Attribute := #[]) (ms : Array MethodInfo := #[]) (fl : Nat := 33) (sup : Nat := 0) (ifs : Array Nat := #[]) (fds : Array FieldInfo := #[]) : ClassFile where
  minorVersion := 0
  majorVersion := 65
  constantPool := pool
  accessFlags := fl
  thisClass := this
  superClass := sup
  interfaces := ifs
  fields := fds
  methods := ms
  attributes := attrs
def plain (name : String) (sup : Option ClassId) : Class where
  name := name
  kind := .ordinary
  loader := none
  accessFlags := 33
  super := sup
  interfaces := #[]
  cf := none
  fields := #[]
  methods := #[]
  instanceTypes := #[]
  staticTypes := #[]
  resolved := #[]
  callSites := []
  init := .initialized
  statics := none
  mirror := none

def pool0 : Array CpInfo := pool [(5, u "<init>"), (0, u "()V"), (1, .class_ 10), (1, u "java/lang/Object")] 113

def k0m0 : Method := { name := "<init>", desc := "()V", sig := { parameters := [], returnType := none }, accessFlags := 1, code := none }
/-- java/lang/Object -/
def k0 : Class := { plain "java/lang/Object" none with
  accessFlags := 33
  interfaces := #[]
  cf := some (fileOf pool0 8 #[] #[{ accessFlags := 1, nameIndex := 5, descriptorIndex := 6, attributes := #[] }] 33 0 #[] #[])
  fields := #[]
  methods := #[k0m0]
  instanceTypes := #[]
  staticTypes := #[]
  resolved := Array.replicate 124 none
  statics := none }

def pool1 : Array CpInfo := pool [(2, .class_ 4), (1, u "java/lang/Object"), (0, u "<init>"), (0, u "()V"), (0, .methodref 8 9), (0, .class_ 10), (0, .nameAndType 11 12), (0, u "com/example/libbuchi/libbuchi/check/Quotient"), (0, u "roundingError"), (0, u "(DDD)D"), (0, .class_ 14), (0, u "com/example/libbuchi/libbuchi/check/QuotientRoundingErrorPinLaw"), (2, u "law"), (0, u "(JJI)Z")] 3

def k1m0 : Method := { name := "<init>", desc := "()V", sig := { parameters := [], returnType := none }, accessFlags := 1, code := none }
def k1c1 : Code := { maxStack := 6, maxLocals := 19, code := code, exceptionTable := #[], attributes := #[] }
def k1m1 : Method := { name := "law", desc := "(JJI)Z", sig := { parameters := [.long, .long, .int], returnType := some .boolean }, accessFlags := 9, code := some k1c1 }
/-- com/example/libbuchi/libbuchi/check/QuotientRoundingErrorPinLaw -/
def k1 : Class := { plain "com/example/libbuchi/libbuchi/check/QuotientRoundingErrorPinLaw" (some 0) with
  accessFlags := 49
  interfaces := #[]
  cf := some (fileOf pool1 13 #[] #[{ accessFlags := 1, nameIndex := 5, descriptorIndex := 6, attributes := #[] }, { accessFlags := 9, nameIndex := 17, descriptorIndex := 18, attributes := #[] }] 49 2 #[] #[])
  fields := #[]
  methods := #[k1m0, k1m1]
  instanceTypes := #[]
  staticTypes := #[]
  resolved := Array.replicate 22 none
  statics := none }

def pool2 : Array CpInfo := pool [(2, .class_ 4), (1, u "java/lang/Object"), (9, .class_ 16), (1, u "com/example/libbuchi/libbuchi/check/Quotient"), (0, u "nodeOf"), (0, u "[I"), (14, u "nodes"), (0, u "I"), (5, u "choiceStart"), (20, u "targetMass"), (0, u "[D"), (2, u "transitionStart"), (5, u "successors"), (2, u "probabilities"), (2, u "comesBack"), (0, u "[Z"), (2, u "probabilityErrors"), (2, u "exitProbabilities"), (19, u "roundingError"), (0, u "(DDD)D"), (36, u "UNIT_ROUNDOFF"), (0, u "D")] 18

def k2c0 : Code := { maxStack := 6, maxLocals := 10, code := prog_31_method_19_code, exceptionTable := #[], attributes := #[] }
def k2m0 : Method := { name := "roundingError", desc := "(DDD)D", sig := { parameters := [.double, .double, .double], returnType := some .double }, accessFlags := 8, code := some k2c0 }
/-- com/example/libbuchi/libbuchi/check/Quotient -/
def k2 : Class := { plain "com/example/libbuchi/libbuchi/check/Quotient" (some 0) with
  accessFlags := 48
  interfaces := #[]
  cf := some (fileOf pool2 14 #[] #[{ accessFlags := 8, nameIndex := 104, descriptorIndex := 105, attributes := #[] }] 48 2 #[] #[{ accessFlags := 24, nameIndex := 142, descriptorIndex := 143, attributes := #[] }, { accessFlags := 18, nameIndex := 17, descriptorIndex := 18, attributes := #[] }, { accessFlags := 18, nameIndex := 33, descriptorIndex := 34, attributes := #[] }, { accessFlags := 18, nameIndex := 40, descriptorIndex := 18, attributes := #[] }, { accessFlags := 18, nameIndex := 61, descriptorIndex := 62, attributes := #[] }, { accessFlags := 18, nameIndex := 65, descriptorIndex := 18, attributes := #[] }, { accessFlags := 18, nameIndex := 71, descriptorIndex := 18, attributes := #[] }, { accessFlags := 18, nameIndex := 74, descriptorIndex := 62, attributes := #[] }, { accessFlags := 18, nameIndex := 77, descriptorIndex := 78, attributes := #[] }, { accessFlags := 18, nameIndex := 81, descriptorIndex := 62, attributes := #[] }, { accessFlags := 18, nameIndex := 84, descriptorIndex := 62, attributes := #[] }])
  fields := #[{ name := "UNIT_ROUNDOFF", type := .double, accessFlags := 24, slot := 0, constantValue := 0 }, { name := "nodeOf", type := (.array .int), accessFlags := 18, slot := 0, constantValue := 0 }, { name := "nodes", type := .int, accessFlags := 18, slot := 1, constantValue := 0 }, { name := "choiceStart", type := (.array .int), accessFlags := 18, slot := 2, constantValue := 0 }, { name := "targetMass", type := (.array .double), accessFlags := 18, slot := 3, constantValue := 0 }, { name := "transitionStart", type := (.array .int), accessFlags := 18, slot := 4, constantValue := 0 }, { name := "successors", type := (.array .int), accessFlags := 18, slot := 5, constantValue := 0 }, { name := "probabilities", type := (.array .double), accessFlags := 18, slot := 6, constantValue := 0 }, { name := "comesBack", type := (.array .boolean), accessFlags := 18, slot := 7, constantValue := 0 }, { name := "probabilityErrors", type := (.array .double), accessFlags := 18, slot := 8, constantValue := 0 }, { name := "exitProbabilities", type := (.array .double), accessFlags := 18, slot := 9, constantValue := 0 }]
  methods := #[k2m0]
  instanceTypes := #[(.array .int), .int, (.array .int), (.array .double), (.array .int), (.array .int), (.array .double), (.array .boolean), (.array .double), (.array .double)]
  staticTypes := #[.double]
  resolved := Array.replicate 162 none
  statics := none }

def pool3 : Array CpInfo := pool [(1, u "java/lang/Cloneable"), (0, .class_ 1), (0, u "java/lang/Object"), (0, .class_ 3)] 3

/-- java/lang/Cloneable -/
def k3 : Class := { plain "java/lang/Cloneable" (some 0) with
  accessFlags := 1537
  interfaces := #[]
  cf := some (fileOf pool3 2 #[] #[] 1537 4 #[] #[])
  fields := #[]
  methods := #[]
  instanceTypes := #[]
  staticTypes := #[]
  resolved := Array.replicate 8 none
  statics := none }

def pool4 : Array CpInfo := pool [(1, u "java/io/Serializable"), (0, .class_ 1), (0, u "java/lang/Object"), (0, .class_ 3)] 3

/-- java/io/Serializable -/
def k4 : Class := { plain "java/io/Serializable" (some 0) with
  accessFlags := 1537
  interfaces := #[]
  cf := some (fileOf pool4 2 #[] #[] 1537 4 #[] #[])
  fields := #[]
  methods := #[]
  instanceTypes := #[]
  staticTypes := #[]
  resolved := Array.replicate 8 none
  statics := none }

/-- the primitive byte -/
def k5 : Class := { plain "byte" none with kind := .primitive 'B', accessFlags := 0x411 }
/-- [B -/
def k6 : Class := { plain "[B" (some 0) with kind := .array 5 .byte, interfaces := #[3, 4], accessFlags := 1041 }

def heap : Heap := #[]
def classes : Array Class := #[k0, k1, k2, k3, k4, k5, k6]
def interned : List (Array UInt16 × Addr) := []
def slotsUsed : Nat := 0
def theMethod : MethodId := ⟨1, 1⟩
def args0 : Array Value := #[.long 5, .long 7, .int 1]
def aboutOver (below : List Frame) : State where
  vm := { classes := classes, interned := interned.toArray }
  heap := heap
  slotsUsed := slotsUsed
  threads := #[{ frames := .invoking theMethod args0 :: below }]
def below0 : List Frame := [.native { method := ⟨0, 0⟩, args := #[] }]
def about1 : State := aboutOver below0
def p0 : Program := .bare "" "" ""
def e0 : Env := launch0.env 0 0 0
theorem w_frames : about1.frames = Frame.invoking theMethod args0 :: below0 := rfl
set_option maxRecDepth 65536 in
theorem w_args : argsFit about1.vm theMethod args0 = true := by decide +kernel
set_option maxRecDepth 65536 in
theorem w_heap : heapFits about1 = true := by decide +kernel
set_option maxRecDepth 65536 in
theorem w_runnable : about1.curStatus? = some .runnable := by decide +kernel
set_option maxRecDepth 65536 in
theorem w_alone : about1.alone = true := by decide +kernel
set_option maxRecDepth 65536 in
theorem w_named : about1.methodNamed? x = some theMethod := by decide +kernel
set_option maxRecDepth 65536 in
theorem w_hears : about1.hears theMethod below0 = true := by decide +kernel
set_option maxRecDepth 65536 in
theorem w_ripe : about1.ripe theMethod args0 below0 = true := by decide +kernel
theorem w_running : about1.status = .running := rfl
set_option maxRecDepth 65536 in
theorem w_room : about1.hasRoom e0.platform room_1 = true :=
  launch0.hasRoom_least _ room_1 (by decide +kernel) (by decide +kernel) (by decide +kernel) (by decide +kernel) (by decide +kernel) (by decide +kernel)
theorem allAtoms_all (ts : List Jvm.Cond) (a : Array Jvm.Value) (st : Jvm.State) : (allAtoms ts).before a st = ts.all (fun c => c.before a st) := by
  induction ts with
  | nil => rfl
  | cons c t ih =>
    show (Jvm.Cond.and c (allAtoms t)).before a st = _
    rw [Jvm.Cond.before_and, ih, List.all_cons]
def words1 : List Jvm.Cond := Jvm.Cond.code x code maxLocals ret :: tables_1
/-- a 'code' word, met by the world's own term for the bytes: nothing is compared byte by byte -/
theorem code_word {y : MethodName} {bytes : ByteArray} {mx : Nat} {rt : Option FieldType} {a : Array Value} {s : State} {m : MethodId} {meth : Method} {c : Code} (h1 : s.methodNamed? y = some m) (h2 : s.vm.method? m = some meth) (h3 : meth.code = some c) (h4 : c.code = bytes)
    (h5 : (c.maxLocals == mx && c.exceptionTable.isEmpty && decide (c.maxStack ≤ mostOperands) && decide (meth.sig.returnType = rt) && !meth.locks && decide (parseMethodDescriptor y.desc = some meth.sig)) = true) : (Jvm.Cond.code y bytes mx rt).before a s = true := by
  simp only [Bool.and_eq_true, beq_iff_eq, Bool.not_eq_true', decide_eq_true_eq] at h5
  obtain ⟨⟨⟨⟨⟨g1, g2⟩, g3⟩, g4⟩, g5⟩, g6⟩ := h5
  simp [Cond.before, Cond.holds, Cond.value, h1, h2, h3, h4, g1, g2, g3, g4, g5, g6]
def isCode : Jvm.Cond → Bool
  | .code _ _ _ _ => true
  | _ => false
theorem all_split {L : List Jvm.Cond} {P : Jvm.Cond → Bool} (h1 : L.all (fun c => isCode c || P c) = true) (h2 : ∀ c ∈ L.filter isCode, P c = true) : L.all P = true := by
  refine List.all_eq_true.mpr fun c hc => ?_
  have h := List.all_eq_true.mp h1 c hc
  rcases Bool.eq_false_or_eq_true (isCode c) with hi | hi
  · exact h2 c (List.mem_filter.mpr ⟨hc, hi⟩)
  · simpa [hi] using h
set_option maxRecDepth 65536 in
theorem w_c0 : (Jvm.Cond.code x code maxLocals ret).before args0 about1 = true := code_word (m := ⟨1, 1⟩) (meth := k1m1) (c := k1c1) (by decide +kernel) rfl rfl rfl (by decide +kernel)
set_option maxRecDepth 65536 in
theorem w_c1 : (Jvm.Cond.code ({ cls := "com/example/libbuchi/libbuchi/check/Quotient", name := "roundingError", desc := "(DDD)D" } : Jvm.MethodName) prog_31_method_19_code (10 : Nat) (Option.some Jvm.ClassFile.FieldType.double)).before args0 about1 = true := code_word (m := ⟨2, 0⟩) (meth := k2m0) (c := k2c0) (by decide +kernel) rfl rfl rfl (by decide +kernel)
def codes1 : List Jvm.Cond := [Jvm.Cond.code x code maxLocals ret, Jvm.Cond.code ({ cls := "com/example/libbuchi/libbuchi/check/Quotient", name := "roundingError", desc := "(DDD)D" } : Jvm.MethodName) prog_31_method_19_code (10 : Nat) (Option.some Jvm.ClassFile.FieldType.double)]
set_option maxRecDepth 65536 in
theorem codes_eq : words1.filter isCode = codes1 := rfl
theorem w_codes : ∀ c ∈ words1.filter isCode, c.before args0 about1 = true := by
  rw [codes_eq]
  intro c hc
  simp only [codes1, List.mem_cons, List.not_mem_nil, or_false] at hc
  rcases hc with rfl | rfl
  · exact w_c0
  · exact w_c1
set_option maxRecDepth 65536 in
theorem w_t1 : words1.all (fun c => isCode c || c.before args0 about1) = true := by decide +kernel
theorem w_tables : (allAtoms (Jvm.Cond.code x code maxLocals ret :: tables_1)).before args0 about1 = true := by
  rw [allAtoms_all]
  show words1.all (fun c => c.before args0 about1) = true
  refine all_split ?_ w_codes
  rw [w_t1]
set_option maxRecDepth 65536 in
theorem w_case : (Jvm.Cond.and given_1 narrow_1).before args0 about1 = true := by decide +kernel
theorem w_applies : (headSpec (Jvm.Cond.code x code maxLocals ret :: tables_1) room_1).applies x e0.platform about1 = true :=
  (Spec.applies_iff w_frames).mpr ⟨w_running, w_runnable, w_alone, w_named, w_hears, w_ripe, w_room, w_tables⟩
theorem atStart : AtStart classFile x code maxLocals ret World_1 tables_1 room_1 Calls_1 rest_1 Pre_1 launch0 p0 e0 about1 theMethod args0 below0 :=
  ⟨lists_1, trivial, launch0.admits_env _ _ _, launch0.least_env, fairChoices_fair.cas, fairChoices_fair.clock, w_frames, w_args, w_heap, w_applies, trivial, trivial, w_case⟩
end start1
theorem witness_1 : WitnessClaimed_1 := ⟨start1.p0, start1.e0, start1.about1, start1.theMethod, start1.args0, start1.below0, start1.atStart⟩
end Jvm.Pilot.@@N@@
