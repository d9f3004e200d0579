import JvmDerived
import JvmDerived.Pilot.@@N@@Statement
import JvmDerived.Pilot.@@N@@Code
set_option linter.unusedVariables false
set_option linter.unusedSimpArgs false
/- laws to paste: Road.backV, Road.eqW, Road.codOf (cut by pick.py; bodies as the Statement names them) -/
namespace Jvm.Pilot.@@N@@
namespace StrChars
open Jvm Sem ClassFile Op Lib Jvm.Stand Jvm.Free.XT Jvm.Free.ALB Jvm.Free.JM Jvm.Free
open Jvm.Lib.Cold (StaticIs)
/-- a char array whose places are chars -/
def Ch (a : Addr) (A : Cell) (U : State) : Prop := Arr .char a A U ∧ Typed .char A
theorem Ch.mv {a : Addr} {A : Cell} {U U' : State} (h : Ch a A U) (hal : U.vm.Alike U'.vm) (hh : U'.heap = U.heap) : Ch a A U' := ⟨h.1.mv hal hh, h.2⟩
theorem Ch.keep {a : Addr} {A : Cell} {U U' : State} (h : Ch a A U) (hal : U.vm.Alike U'.vm) (hk : U'.heap[a]? = some A) : Ch a A U' := ⟨h.1.keep hal hk, h.2⟩
/-- what place i of a char[]'s cell holds -/
def cv (A : Cell) (i : Nat) : Int32 := match A.slots[i]? with | some (.int x) => x | _ => 0
theorem Ch.get {a : Addr} {A : Cell} {U : State} (h : Ch a A U) {i : Nat} (hi : i < A.slots.size) : A.slots[i]? = some (.int (cv A i)) := by
  have e := Array.getElem?_eq_getElem hi
  have f := h.2 i _ e
  unfold cv; rw [e]
  generalize A.slots[i] = v at f
  cases v <;> simp [fits] at f ⊢
/-- the byte that i2b leaves of a char -/
def lo8 (x : Int32) : Int32 := x.toInt8.toInt32
theorem fits_lo8 (y : Int32) : fits .byte (.int (lo8 y)) = true := by
  have h1 := y.toInt8.le_toInt
  have h2 := y.toInt8.toInt_lt
  simp only [lo8, fits, Bool.and_eq_true, decide_eq_true_eq, Int32.le_iff_toInt_le, Int8.toInt_toInt32, show (-128 : Int32).toInt = -128 from by decide, show (127 : Int32).toInt = 127 from by decide]
  omega
/-- A' is A but that each place j of lo .. hi - 1 holds f j -/
def Laid (A A' : Cell) (lo hi : Nat) (f : Nat → Value) : Prop := A'.cls = A.cls ∧ A'.vm = A.vm ∧ A'.slots.size = A.slots.size ∧ ∀ i, A'.slots[i]? = if lo ≤ i ∧ i < hi then some (f i) else A.slots[i]?
theorem Laid.zero (A : Cell) (lo : Nat) (f : Nat → Value) : Laid A A lo (lo + 0) f := ⟨rfl, rfl, rfl, fun i => by rw [if_neg (by omega)]⟩
theorem Laid.step {A Ak : Cell} {lo k : Nat} {f : Nat → Value} {v : Value} (h : Laid A Ak lo k f) (hlo : lo ≤ k) (hk : k < Ak.slots.size) (hv : v = f k) : Laid A (Ak.setSlot k v) lo (k + 1) f := by
  refine ⟨h.1, h.2.1, by simpa [Cell.setSlot] using h.2.2.1, fun i => ?_⟩
  by_cases e : k = i
  · subst e; rw [Cell.slots_setSlot_self v hk, if_pos (by omega), hv]
  · rw [Cell.slots_setSlot_ne v e, h.2.2.2 i]
    by_cases q : lo ≤ i ∧ i < k
    · rw [if_pos q, if_pos (by omega)]
    · rw [if_neg q, if_neg (by omega)]
def U16 : String := "java/lang/StringUTF16"
namespace Cmp5
def yN : MethodName := ⟨"java/lang/StringUTF16", "compress", "([CI[BII)I"⟩
abbrev yB : ByteArray := jdk_52_method_21_code
theorem d0 : decode yB 0 = .ok (.iconst 0, 1) := by decide +kernel
theorem d1 : decode yB 1 = .ok (.istore 5, 2) := by decide +kernel
theorem d3 : decode yB 3 = .ok (.iload 5, 2) := by decide +kernel
theorem d5 : decode yB 5 = .ok (.iload 4, 2) := by decide +kernel
theorem d7 : decode yB 7 = .ok (.if_icmp (.ge) 37, 3) := by decide +kernel
theorem d10 : decode yB 10 = .ok (.aload_n 0, 1) := by decide +kernel
theorem d11 : decode yB 11 = .ok (.iload_n 1, 1) := by decide +kernel
theorem d12 : decode yB 12 = .ok (.caload, 1) := by decide +kernel
theorem d13 : decode yB 13 = .ok (.istore 6, 2) := by decide +kernel
theorem d15 : decode yB 15 = .ok (.iload 6, 2) := by decide +kernel
theorem d17 : decode yB 17 = .ok (.sipush 255, 3) := by decide +kernel
theorem d20 : decode yB 20 = .ok (.if_icmp (.le) 6, 3) := by decide +kernel
theorem d26 : decode yB 26 = .ok (.aload_n 2, 1) := by decide +kernel
theorem d27 : decode yB 27 = .ok (.iload_n 3, 1) := by decide +kernel
theorem d28 : decode yB 28 = .ok (.iload 6, 2) := by decide +kernel
theorem d30 : decode yB 30 = .ok (.i2b, 1) := by decide +kernel
theorem d31 : decode yB 31 = .ok (.bastore, 1) := by decide +kernel
theorem d32 : decode yB 32 = .ok (.iinc 1 1, 3) := by decide +kernel
theorem d35 : decode yB 35 = .ok (.iinc 3 1, 3) := by decide +kernel
theorem d38 : decode yB 38 = .ok (.iinc 5 1, 3) := by decide +kernel
theorem d41 : decode yB 41 = .ok (.goto (-38), 3) := by decide +kernel
theorem d44 : decode yB 44 = .ok (.iload 4, 2) := by decide +kernel
theorem d46 : decode yB 46 = .ok (.ireturn, 1) := by decide +kernel
def site : List Cond := []
def tab : Cond := tabOf yN yB 7 (some .int) site
def P (b : Addr) (A : Cell) (d : Addr) (B : Cell) (o q len : Nat) (args : Array Value) (s : State) : Prop := args = #[.ref b, .int (Int32.ofNat o), .ref d, .int (Int32.ofNat q), .int (Int32.ofNat len)] ∧ Ch b A s ∧ Arr .byte d B s ∧ b ≠ d ∧ o + len ≤ A.slots.size ∧ q + len ≤ B.slots.size ∧ ∀ i, i < len → ¬ 255 < cv A (o + i)
def E (b : Addr) (A : Cell) (d : Addr) (B : Cell) (o q len : Nat) (r : Option Value) (s u : State) : Prop := r = some (.int (Int32.ofNat len)) ∧ ∃ B', Put d B' s u ∧ Laid B B' q (q + len) (fun j => Value.int (lo8 (cv A (o + (j - q)))))
/-- no char of the range above 255: len; the places written hold each char's low byte -/
theorem law (l : Launch) (b : Addr) (A : Cell) (d : Addr) (B : Cell) (o q len : Nat) : Law l yN 5 5 0 0 yB 7 (some .int) site (P b A d B o q len) (E b A d B o q len) (copyLocs d q len) 0 0 := by
  refine Law.of_walk (plainFor_of_name (by decide +kernel)) (by decide +kernel) (by decide +kernel) (by decide) (fun _ _ h => by rw [h.1]; rfl) (fun _ U U' hal hh h => ⟨h.1, h.2.1.mv hal hh, h.2.2.1.mv hal hh, h.2.2.2⟩) (fun r U U' V V' h1 hal h2 h => ⟨h.1, h.2.elim fun B' q => ⟨B', q.1.mv h1 h2, q.2⟩⟩) ?_
  intro p e s m args below meth c s₁ X0 hexec hbytes hml hret hlk hnm hown hh0 W hP
  obtain ⟨rfl, hA, hB, hne, l1, l2, hp⟩ := hP
  have c1 : Steps p.tables e below (s₁.setTop (entryFrame m #[.ref b, .int (Int32.ofNat o), .ref d, .int (Int32.ofNat q), .int (Int32.ofNat len)] 7)) (s₁.setTop (mkF m 0 #[.val (.ref b), .val (.int (Int32.ofNat o)), .val (.ref d), .val (.int (Int32.ofNat q)), .val (.int (Int32.ofNat len)), .unset, .unset] [])) := entry rfl
  have hA0 := hA.1.mv X0.warmed.alike hh0
  have hB0 := hB.mv X0.warmed.alike hh0
  have a31 := hA.1.2.2.2
  have c2 : Steps p.tables e below (s₁.setTop (entryFrame m #[.ref b, .int (Int32.ofNat o), .ref d, .int (Int32.ofNat q), .int (Int32.ofNat len)] 7)) (s₁.setTop (mkF m 3 #[.val (.ref b), .val (.int (Int32.ofNat o)), .val (.ref d), .val (.int (Int32.ofNat q)), .val (.int (Int32.ofNat len)), .val (.int 0), .unset] [])) := c1.trans (by
    refine iconstV X0.here hexec rfl 0 (hb hbytes d0) (by decide) ?_
    refine XS.istore X0.here hexec rfl (hb hbytes d1) rfl rfl ?_
    exact Steps.refl _)
  have loop : ∀ (r i : Nat), i + r = len → ∀ (z : Slot), (z = .unset ∨ ∃ w, z = .val w ∧ w.category = 1) → ∀ (Tl : State) (Bk : Cell), Stand p l e { frames := 0, locals := 0, cells := 0, slots := 0 } s m #[.ref b, .int (Int32.ofNat o), .ref d, .int (Int32.ofNat q), .int (Int32.ofNat len)] below meth c Tl ([] ++ copyLocs d q i) 0 0 → Put d Bk s₁ Tl → Laid B Bk q (q + i) (fun j => Value.int (lo8 (cv A (o + (j - q))))) →
      Steps p.tables e below (s₁.setTop (entryFrame m #[.ref b, .int (Int32.ofNat o), .ref d, .int (Int32.ofNat q), .int (Int32.ofNat len)] 7)) (Tl.setTop (mkF m 3 #[.val (.ref b), .val (.int (Int32.ofNat (o + i))), .val (.ref d), .val (.int (Int32.ofNat (q + i))), .val (.int (Int32.ofNat len)), .val (.int (Int32.ofNat i)), z] [])) → ∃ (T' : State) (B' : Cell) (z' : Slot), Stand p l e { frames := 0, locals := 0, cells := 0, slots := 0 } s m #[.ref b, .int (Int32.ofNat o), .ref d, .int (Int32.ofNat q), .int (Int32.ofNat len)] below meth c T' ([] ++ copyLocs d q len) 0 0 ∧ Put d B' s₁ T' ∧ Laid B B' q (q + len) (fun j => Value.int (lo8 (cv A (o + (j - q))))) ∧
      Steps p.tables e below (s₁.setTop (entryFrame m #[.ref b, .int (Int32.ofNat o), .ref d, .int (Int32.ofNat q), .int (Int32.ofNat len)] 7)) (T'.setTop (mkF m 3 #[.val (.ref b), .val (.int (Int32.ofNat (o + len))), .val (.ref d), .val (.int (Int32.ofNat (q + len))), .val (.int (Int32.ofNat len)), .val (.int (Int32.ofNat len)), z'] [])) := by
    intro r
    induction r with
    | zero =>
      intro i hi z hz Tl Bk Xl pl fl cl
      have hil : i = len := by omega
      rw [hil] at Xl fl cl
      exact ⟨Tl, Bk, z, Xl, pl, fl, cl⟩
    | succ r ih =>
      intro i hi z hz Tl Bk Xl pl fl cl
      have all := X0.warmed.alike.symm.trans Xl.warmed.alike
      have hAl := hA0.keep all (pl.other hne hA0.1)
      have hBk := hB0.like all pl.1 fl.1 fl.2.1 fl.2.2.1
      have hlt : q + i < Bk.slots.size := by rw [fl.2.2.1]; omega
      have c3 : Steps p.tables e below (s₁.setTop (entryFrame m #[.ref b, .int (Int32.ofNat o), .ref d, .int (Int32.ofNat q), .int (Int32.ofNat len)] 7)) (Tl.setTop (mkF m 12 #[.val (.ref b), .val (.int (Int32.ofNat (o + i))), .val (.ref d), .val (.int (Int32.ofNat (q + i))), .val (.int (Int32.ofNat len)), .val (.int (Int32.ofNat i)), z] [.int (Int32.ofNat (o + i)), .ref b])) := cl.trans (by
        refine XS.iload Xl.here hexec rfl (hb hbytes d3) rfl ?_
        refine XS.iload Xl.here hexec rfl (hb hbytes d5) rfl ?_
        refine XS.icmpNo Xl.here hexec rfl (hb hbytes d7) rfl (ii_ge_f (lt32 (by omega) (by omega))) ?_
        refine XS.aloadN Xl.here hexec rfl (hb hbytes d10) rfl rfl ?_
        refine XS.iloadN Xl.here hexec rfl (hb hbytes d11) rfl ?_
        exact Steps.refl _)
      have c4 : Steps p.tables e below (s₁.setTop (entryFrame m #[.ref b, .int (Int32.ofNat o), .ref d, .int (Int32.ofNat q), .int (Int32.ofNat len)] 7)) (Tl.setTop (mkF m 13 #[.val (.ref b), .val (.int (Int32.ofNat (o + i))), .val (.ref d), .val (.int (Int32.ofNat (q + i))), .val (.int (Int32.ofNat len)), .val (.int (Int32.ofNat i)), z] [.int (cv A (o + i))])) := c3.trans (by
        refine Xl.aget hexec hAl rfl (hA.get (i := o + i) (by omega)) rfl rfl (hb hbytes d12) ?_
        exact Steps.refl _)
      have c5 : Steps p.tables e below (s₁.setTop (entryFrame m #[.ref b, .int (Int32.ofNat o), .ref d, .int (Int32.ofNat q), .int (Int32.ofNat len)] 7)) (Tl.setTop (mkF m 15 #[.val (.ref b), .val (.int (Int32.ofNat (o + i))), .val (.ref d), .val (.int (Int32.ofNat (q + i))), .val (.int (Int32.ofNat len)), .val (.int (Int32.ofNat i)), .val (.int (cv A (o + i)))] [])) := c4.trans (by
        refine XS.istoreS Xl.here hexec rfl (hb hbytes d13) rfl rfl hz ?_
        exact Steps.refl _)
      have c6 : Steps p.tables e below (s₁.setTop (entryFrame m #[.ref b, .int (Int32.ofNat o), .ref d, .int (Int32.ofNat q), .int (Int32.ofNat len)] 7)) (Tl.setTop (mkF m 31 #[.val (.ref b), .val (.int (Int32.ofNat (o + i))), .val (.ref d), .val (.int (Int32.ofNat (q + i))), .val (.int (Int32.ofNat len)), .val (.int (Int32.ofNat i)), .val (.int (cv A (o + i)))] [.int (lo8 (cv A (o + i))), .int (Int32.ofNat (q + i)), .ref d])) := c5.trans (by
        refine XS.iload Xl.here hexec rfl (hb hbytes d15) rfl ?_
        refine sipushV Xl.here hexec rfl 255 (hb hbytes d17) (by decide) ?_
        refine XS.icmpYes Xl.here hexec rfl (pc0 := 20) rfl (hb hbytes d20) rfl (ii_le_t (hp i (by omega))) (by decide) rfl ?_
        refine XS.aloadN Xl.here hexec rfl (hb hbytes d26) rfl rfl ?_
        refine XS.iloadN Xl.here hexec rfl (hb hbytes d27) rfl ?_
        refine XS.iload Xl.here hexec rfl (hb hbytes d28) rfl ?_
        refine i2b Xl.here hexec rfl (hb hbytes d30) rfl ?_
        exact Steps.refl _)
      obtain ⟨T7, X7, p7, st7⟩ := Xl.aput hexec hBk rfl hlt rfl (fits_lo8 (cv A (o + i))) (g := (mkF m 31 #[.val (.ref b), .val (.int (Int32.ofNat (o + i))), .val (.ref d), .val (.int (Int32.ofNat (q + i))), .val (.int (Int32.ofNat len)), .val (.int (Int32.ofNat i)), .val (.int (cv A (o + i)))] [.int (lo8 (cv A (o + i))), .int (Int32.ofNat (q + i)), .ref d])) rfl (rest := []) rfl (hb hbytes d31)
      have c8 : Steps p.tables e below (s₁.setTop (entryFrame m #[.ref b, .int (Int32.ofNat o), .ref d, .int (Int32.ofNat q), .int (Int32.ofNat len)] 7)) (T7.setTop (mkF m 32 #[.val (.ref b), .val (.int (Int32.ofNat (o + i))), .val (.ref d), .val (.int (Int32.ofNat (q + i))), .val (.int (Int32.ofNat len)), .val (.int (Int32.ofNat i)), .val (.int (cv A (o + i)))] [])) := c6.trans (st7 _ (Steps.refl _))
      have c9 : Steps p.tables e below (s₁.setTop (entryFrame m #[.ref b, .int (Int32.ofNat o), .ref d, .int (Int32.ofNat q), .int (Int32.ofNat len)] 7)) (T7.setTop (mkF m 3 #[.val (.ref b), .val (.int (Int32.ofNat (o + i) + 1)), .val (.ref d), .val (.int (Int32.ofNat (q + i) + 1)), .val (.int (Int32.ofNat len)), .val (.int (Int32.ofNat i + 1)), .val (.int (cv A (o + i)))] [])) := c8.trans (by
        refine iincV X7.here hexec rfl 1 (hb hbytes d32) (by decide) rfl rfl ?_
        refine iincV X7.here hexec rfl 1 (hb hbytes d35) (by decide) rfl rfl ?_
        refine iincV X7.here hexec rfl 1 (hb hbytes d38) (by decide) rfl rfl ?_
        refine XS.goto X7.here hexec rfl (pc0 := 41) rfl (hb hbytes d41) (by decide) rfl ?_
        exact Steps.refl _)
      have c10 : Steps p.tables e below (s₁.setTop (entryFrame m #[.ref b, .int (Int32.ofNat o), .ref d, .int (Int32.ofNat q), .int (Int32.ofNat len)] 7)) (T7.setTop (mkF m 3 #[.val (.ref b), .val (.int (Int32.ofNat (o + (i + 1)))), .val (.ref d), .val (.int (Int32.ofNat (q + (i + 1)))), .val (.int (Int32.ofNat len)), .val (.int (Int32.ofNat (i + 1))), .val (.int (cv A (o + i)))] [])) := by
        have := c9
        rw [succ32, succ32, succ32] at this
        exact this
      exact ih (i + 1) (by omega) _ (Or.inr ⟨_, rfl, rfl⟩) T7 _ (by rw [copyLocs_step, ← List.append_assoc]; exact X7) (pl.trans p7) (fl.step (by omega) hlt (by simp)) c10
  obtain ⟨T9, B9, z9, X9, p9, f9, g9⟩ := loop len 0 (by omega) .unset (Or.inl rfl) s₁ B (by simpa [copyLocs] using X0) ⟨hB0.1, fun _ _ => rfl, rfl⟩ (Laid.zero _ _ _) c2
  have c11 : Steps p.tables e below (s₁.setTop (entryFrame m #[.ref b, .int (Int32.ofNat o), .ref d, .int (Int32.ofNat q), .int (Int32.ofNat len)] 7)) (T9.setTop (mkF m 46 #[.val (.ref b), .val (.int (Int32.ofNat (o + len))), .val (.ref d), .val (.int (Int32.ofNat (q + len))), .val (.int (Int32.ofNat len)), .val (.int (Int32.ofNat len)), z9] [.int (Int32.ofNat len)])) := g9.trans (by
    refine XS.iload X9.here hexec rfl (hb hbytes d3) rfl ?_
    refine XS.iload X9.here hexec rfl (hb hbytes d5) rfl ?_
    refine XS.icmpYes X9.here hexec rfl (pc0 := 7) rfl (hb hbytes d7) rfl (ii_ge_t (nlt32 (by omega) (Nat.le_refl _))) (by decide) rfl ?_
    refine XS.iload X9.here hexec rfl (hb hbytes d44) rfl ?_
    exact Steps.refl _)
  exact ⟨T9, some (.int (Int32.ofNat len)), _, _, _, X9, by simp, rfl, rfl, (fun h => by cases h), ⟨rfl, B9, p9.from hh0, f9⟩, fun fs hl => c11.trans (X9.ireturnOut hexec hret rfl (Or.inl rfl) (hb hbytes d46) hl)⟩
end Cmp5
namespace Cmp3
def yN : MethodName := ⟨"java/lang/StringUTF16", "compress", "([CII)[B"⟩
abbrev yB : ByteArray := jdk_52_method_16_code
theorem d0 : decode yB 0 = .ok (.iload_n 2, 1) := by decide +kernel
theorem d1 : decode yB 1 = .ok (.newarray .byte, 2) := by decide +kernel
theorem d3 : decode yB 3 = .ok (.astore_n 3, 1) := by decide +kernel
theorem d4 : decode yB 4 = .ok (.aload_n 0, 1) := by decide +kernel
theorem d5 : decode yB 5 = .ok (.iload_n 1, 1) := by decide +kernel
theorem d6 : decode yB 6 = .ok (.aload_n 3, 1) := by decide +kernel
theorem d7 : decode yB 7 = .ok (.iconst 0, 1) := by decide +kernel
theorem d8 : decode yB 8 = .ok (.iload_n 2, 1) := by decide +kernel
theorem d9 : decode yB 9 = .ok (.invokestatic 115, 3) := by decide +kernel
theorem d12 : decode yB 12 = .ok (.istore 4, 2) := by decide +kernel
theorem d14 : decode yB 14 = .ok (.iload 4, 2) := by decide +kernel
theorem d16 : decode yB 16 = .ok (.iload_n 2, 1) := by decide +kernel
theorem d17 : decode yB 17 = .ok (.if_icmp (.eq) 40, 3) := by decide +kernel
theorem d57 : decode yB 57 = .ok (.aload_n 3, 1) := by decide +kernel
theorem d58 : decode yB 58 = .ok (.areturn, 1) := by decide +kernel
def site : List Cond := [.arrayClass .byte, Cmp5.tab] ++ staticW U16 115 Cmp5.yN
def tab : Cond := tabOf yN yB 6 (some (.array .byte)) site
def P (b : Addr) (A : Cell) (o len : Nat) (args : Array Value) (s : State) : Prop := args = #[.ref b, .int (Int32.ofNat o), .int (Int32.ofNat len)] ∧ Ch b A s ∧ o + len ≤ A.slots.size ∧ len ≤ 536870912 ∧ ∀ i, i < len → ¬ 255 < cv A (o + i)
def E (b : Addr) (A : Cell) (o len : Nat) (r : Option Value) (s u : State) : Prop := NewArr .byte "[B" len (fun j => .int (lo8 (cv A (o + j)))) r s u ∧ u.heap.size = s.heap.size + 1
/-- no char of the range above 255: a new byte[] of their low bytes -/
theorem law (l : Launch) (b : Addr) (A : Cell) (o len : Nat) : Law l yN 3 3 1 18 yB 6 (some (.array .byte)) site (P b A o len) (E b A o len) [] 1 len := by
  refine Law.of_walk (plainFor_of_name (by decide +kernel)) (by decide +kernel) (by decide +kernel) (by decide) (fun _ _ h => by rw [h.1]; rfl) (fun _ U U' hal hh h => ⟨h.1, h.2.1.mv hal hh, h.2.2⟩) (fun r U U' V V' h1 hal h2 h => ⟨NewArr.mv r U U' V V' h1 hal h2 h.1, by rw [h1, h2]; exact h.2⟩) ?_
  intro p e s m args below meth c s₁ X0 hexec hbytes hml hret hlk hnm hown hh0 W hP
  obtain ⟨rfl, hA, l1, l2, hp⟩ := hP
  have a31 := hA.1.2.2.2
  have c1 : Steps p.tables e below (s₁.setTop (entryFrame m #[.ref b, .int (Int32.ofNat o), .int (Int32.ofNat len)] 6)) (s₁.setTop (mkF m 0 #[.val (.ref b), .val (.int (Int32.ofNat o)), .val (.int (Int32.ofNat len)), .unset, .unset, .unset] [])) := entry rfl
  have c2 : Steps p.tables e below (s₁.setTop (entryFrame m #[.ref b, .int (Int32.ofNat o), .int (Int32.ofNat len)] 6)) (s₁.setTop (mkF m 1 #[.val (.ref b), .val (.int (Int32.ofNat o)), .val (.int (Int32.ofNat len)), .unset, .unset, .unset] [.int (Int32.ofNat len)])) := c1.trans (by
    refine XS.iloadN X0.here hexec rfl (hb hbytes d0) rfl ?_
    exact Steps.refl _)
  obtain ⟨T3, B3, X3, ba3, bs3, bv3, bh3, bf3, st3⟩ := X0.anew hexec (atype := .byte) (wk W (.arrayClass .byte)) rfl (by show len * 1 ≤ _; omega) (by omega) (g := (mkF m 1 #[.val (.ref b), .val (.int (Int32.ofNat o)), .val (.int (Int32.ofNat len)), .unset, .unset, .unset] [.int (Int32.ofNat len)])) rfl (hb hbytes d1) (rest := []) rfl (Nat.le_refl _) (by show 0 + len ≤ len; omega)
  rw [hh0] at ba3 st3
  have kp3 : XT.Kept s T3 := (XT.Kept.of_eq hh0).push bh3
  have hA3 := hA.keep X3.warmed.alike (kp3 _ _ hA.1.1)
  have hne : b ≠ s.heap.size := hA.1.ne
  have c4 : Steps p.tables e below (s₁.setTop (entryFrame m #[.ref b, .int (Int32.ofNat o), .int (Int32.ofNat len)] 6)) (T3.setTop (mkF m 3 #[.val (.ref b), .val (.int (Int32.ofNat o)), .val (.int (Int32.ofNat len)), .unset, .unset, .unset] [.ref s.heap.size])) := c2.trans (st3 _ (Steps.refl _))
  have c5 : Steps p.tables e below (s₁.setTop (entryFrame m #[.ref b, .int (Int32.ofNat o), .int (Int32.ofNat len)] 6)) (T3.setTop (mkF m 9 #[.val (.ref b), .val (.int (Int32.ofNat o)), .val (.int (Int32.ofNat len)), .val (.ref s.heap.size), .unset, .unset] [.int (Int32.ofNat len), .int 0, .ref s.heap.size, .int (Int32.ofNat o), .ref b])) := c4.trans (by
    refine XS.astoreN X3.here hexec rfl (hb hbytes d3) rfl rfl rfl ?_
    refine XS.aloadN X3.here hexec rfl (hb hbytes d4) rfl rfl ?_
    refine XS.iloadN X3.here hexec rfl (hb hbytes d5) rfl ?_
    refine XS.aloadN X3.here hexec rfl (hb hbytes d6) rfl rfl ?_
    refine iconstV X3.here hexec rfl 0 (hb hbytes d7) (by decide) ?_
    refine XS.iloadN X3.here hexec rfl (hb hbytes d8) rfl ?_
    exact Steps.refl _)
  obtain ⟨v6, T6, X6, E6, g6⟩ := X3.callS hexec (Cmp5.law l b A s.heap.size B3 o 0 len) hown (wks W (staticW U16 115 Cmp5.yN)) (wk W Cmp5.tab) (W := 0) (Nat.le_of_ble_eq_true rfl) (Nat.le_of_ble_eq_true rfl) (Nat.le_refl _) (by show 0 + len + 0 ≤ len; omega) (g := (mkF m 9 #[.val (.ref b), .val (.int (Int32.ofNat o)), .val (.int (Int32.ofNat len)), .val (.ref s.heap.size), .unset, .unset] [.int (Int32.ofNat len), .int (Int32.ofNat 0), .ref s.heap.size, .int (Int32.ofNat o), .ref b])) rfl (by rw [hml]; rfl) c5 (argsL := [.ref b, .int (Int32.ofNat o), .ref s.heap.size, .int (Int32.ofNat 0), .int (Int32.ofNat len)]) (rest := []) rfl rfl (by show 2 * 0 + 0 ≤ _; decide) (hb hbytes d9) (⟨rfl, hA3, ba3, hne, l1, by rw [bs3]; simp, hp⟩)
  obtain ⟨rfl, B6, p6, f6⟩ := E6
  have c7 : Steps p.tables e below (s₁.setTop (entryFrame m #[.ref b, .int (Int32.ofNat o), .int (Int32.ofNat len)] 6)) (T6.setTop (mkF m 12 #[.val (.ref b), .val (.int (Int32.ofNat o)), .val (.int (Int32.ofNat len)), .val (.ref s.heap.size), .unset, .unset] [.int (Int32.ofNat len)])) := g6
  have c8 : Steps p.tables e below (s₁.setTop (entryFrame m #[.ref b, .int (Int32.ofNat o), .int (Int32.ofNat len)] 6)) (T6.setTop (mkF m 58 #[.val (.ref b), .val (.int (Int32.ofNat o)), .val (.int (Int32.ofNat len)), .val (.ref s.heap.size), .val (.int (Int32.ofNat len)), .unset] [.ref s.heap.size])) := c7.trans (by
    refine XS.istore X6.here hexec rfl (hb hbytes d12) rfl rfl ?_
    refine XS.iload X6.here hexec rfl (hb hbytes d14) rfl ?_
    refine XS.iloadN X6.here hexec rfl (hb hbytes d16) rfl ?_
    refine XS.icmpYes X6.here hexec rfl (pc0 := 17) rfl (hb hbytes d17) rfl (ii_eq_t rfl) (by decide) rfl ?_
    refine XS.aloadN X6.here hexec rfl (hb hbytes d57) rfl rfl ?_
    exact Steps.refl _)
  have X8 := X6.wide (L' := []) (cells' := 1) (slots' := len) (fun x hx hlt => by
    simp only [List.nil_append, copyLocs, List.mem_map, List.mem_range] at hx
    obtain ⟨i, -, rfl⟩ := hx
    exact absurd hlt (Nat.lt_irrefl _)) (Nat.le_refl _) (by omega)
  exact ⟨T6, some (.ref s.heap.size), _, _, _, X8, rfl, rfl, rfl, (fun h => by cases h), ⟨⟨rfl, B6, ba3.like (X3.warmed.alike.symm.trans X6.warmed.alike) p6.1 f6.1 f6.2.1 f6.2.2.1, f6.2.1.trans bv3, by rw [X6.warmed.alike.findClass, f6.1]; exact bf3, by rw [f6.2.2.1, bs3]; simp, fun j hj => by rw [f6.2.2.2 j, if_pos (by omega)]; rfl, kp3.put p6 (Nat.le_refl _)⟩, by rw [p6.2.2, bh3, hh0]; simp⟩, fun fs hl => c8.trans (X8.areturnOut hexec rfl hret rfl (hb hbytes d58) hl)⟩
end Cmp3
namespace CodL
def yN : MethodName := ⟨"java/lang/StringUTF16", "coderFromArrayLen", "([BI)B"⟩
abbrev yB : ByteArray := jdk_52_method_15_code
theorem d0 : decode yB 0 = .ok (.iload_n 1, 1) := by decide +kernel
theorem d1 : decode yB 1 = .ok (.aload_n 0, 1) := by decide +kernel
theorem d2 : decode yB 2 = .ok (.arraylength, 1) := by decide +kernel
theorem d3 : decode yB 3 = .ok (.isub, 1) := by decide +kernel
theorem d4 : decode yB 4 = .ok (.bipush 31, 2) := by decide +kernel
theorem d6 : decode yB 6 = .ok (.iushr, 1) := by decide +kernel
theorem d7 : decode yB 7 = .ok (.i2b, 1) := by decide +kernel
theorem d8 : decode yB 8 = .ok (.ireturn, 1) := by decide +kernel
def site : List Cond := []
def tab : Cond := tabOf yN yB 2 (some .byte) site
def P (d : Addr) (B : Cell) (args : Array Value) (s : State) : Prop := args = #[.ref d, .int (Int32.ofNat B.slots.size)] ∧ Arr .byte d B s
def E (r : Option Value) (s u : State) : Prop := XT.PureE (some (.int 0)) r s u
/-- an array as long as the number of chars: LATIN1 -/
theorem law (l : Launch) (d : Addr) (B : Cell) : Law l yN 2 2 0 0 yB 2 (some .byte) site (P d B) E [] 0 0 := by
  refine Law.of_walk (plainFor_of_name (by decide +kernel)) (by decide +kernel) (by decide +kernel) (by decide) (fun _ _ h => by rw [h.1]; rfl) (fun _ U U' hal hh h => ⟨h.1, h.2.mv hal hh⟩) (fun r U U' V V' h1 hal h2 h => XT.PureE.mv r U U' V V' h1 hal h2 h) ?_
  intro p e s m args below meth c s₁ X0 hexec hbytes hml hret hlk hnm hown hh0 W hP
  obtain ⟨rfl, hB⟩ := hP
  have hB0 := hB.mv X0.warmed.alike hh0
  have c1 : Steps p.tables e below (s₁.setTop (entryFrame m #[.ref d, .int (Int32.ofNat B.slots.size)] 2)) (s₁.setTop (mkF m 0 #[.val (.ref d), .val (.int (Int32.ofNat B.slots.size))] [])) := entry rfl
  have c2 : Steps p.tables e below (s₁.setTop (entryFrame m #[.ref d, .int (Int32.ofNat B.slots.size)] 2)) (s₁.setTop (mkF m 2 #[.val (.ref d), .val (.int (Int32.ofNat B.slots.size))] [.ref d, .int (Int32.ofNat B.slots.size)])) := c1.trans (by
    refine XS.iloadN X0.here hexec rfl (hb hbytes d0) rfl ?_
    refine XS.aloadN X0.here hexec rfl (hb hbytes d1) rfl rfl ?_
    exact Steps.refl _)
  have c3 : Steps p.tables e below (s₁.setTop (entryFrame m #[.ref d, .int (Int32.ofNat B.slots.size)] 2)) (s₁.setTop (mkF m 8 #[.val (.ref d), .val (.int (Int32.ofNat B.slots.size))] [.int (lo8 (ushr (Int32.ofNat B.slots.size - Int32.ofNat B.slots.size) 31))])) := c2.trans (by
    refine X0.alen hexec hB0 rfl rfl (hb hbytes d2) ?_
    refine XS.isub X0.here hexec rfl (hb hbytes d3) rfl ?_
    refine bipushV X0.here hexec rfl 31 (hb hbytes d4) (by decide) ?_
    refine iushr X0.here hexec rfl (hb hbytes d6) rfl ?_
    refine i2b X0.here hexec rfl (hb hbytes d7) rfl ?_
    exact Steps.refl _)
  have e0 : lo8 (ushr (Int32.ofNat B.slots.size - Int32.ofNat B.slots.size) 31) = 0 := by rw [Int32.sub_self]; decide
  rw [e0] at c3
  exact ⟨s₁, some (.int 0), _, _, _, X0, rfl, rfl, rfl, (fun h => by cases h), ⟨rfl, hh0⟩, fun fs hl => c3.trans (X0.ireturnOut hexec hret rfl (Or.inr (Or.inr (Or.inl rfl))) (hb hbytes d8) hl)⟩
end CodL
/-- the String at a is Latin-1 over a new byte[] (the heap's one new cell): the low bytes of the len chars of A from o on; every cell but a is kept -/
def Got (a : Addr) (D : Cell) (fV fC : Field) (A : Cell) (o len : Nat) (r : Option Value) (s u : State) : Prop := r = none ∧ ∃ D' V : Cell, Blank "java/lang/String" a D' u ∧ Same D D' [fV.slot, fC.slot] ∧ D'.slots[fV.slot]? = some (.ref s.heap.size) ∧ D'.slots[fC.slot]? = some (.int 0) ∧ Arr .byte s.heap.size V u ∧ V.vm = .none ∧ u.vm.findClass "[B" = some V.cls ∧ V.slots.size = len ∧ (∀ j, j < len → V.slots[j]? = some (.int (lo8 (cv A (o + j))))) ∧ (∀ (y : Addr) (c : Cell), y ≠ a → s.heap[y]? = some c → u.heap[y]? = some c) ∧ u.heap.size = s.heap.size + 1
theorem Got.mv {a : Addr} {D A : Cell} {fV fC : Field} {o len : Nat} : ∀ r (U U' V V' : State), U'.heap = U.heap → V.vm.Alike V'.vm → V'.heap = V.heap → Got a D fV fC A o len r U V → Got a D fV fC A o len r U' V' :=
  fun r U U' V V' h1 hal h2 ⟨e0, D', X, a1, a2, a3, a4, a5, a6, a7, a8, a9, a10, a11⟩ => ⟨e0, D', X, a1.mv hal h2, a2, by rw [h1]; exact a3, a4, by rw [h1]; exact a5.mv hal h2, a6, by rw [hal.findClass]; exact a7, a8, a9, by rw [h1, h2]; exact a10, by rw [h1, h2]; exact a11⟩
namespace New4
def yN : MethodName := ⟨"java/lang/String", "<init>", "([CIILjava/lang/Void;)V"⟩
abbrev yB : ByteArray := jdk_42_method_149_code
theorem d0 : decode yB 0 = .ok (.aload_n 0, 1) := by decide +kernel
theorem d1 : decode yB 1 = .ok (.invokespecial 1, 3) := by decide +kernel
theorem d4 : decode yB 4 = .ok (.iload_n 3, 1) := by decide +kernel
theorem d5 : decode yB 5 = .ok (.ifCond (.ne) 22, 3) := by decide +kernel
theorem d27 : decode yB 27 = .ok (.getstatic 38, 3) := by decide +kernel
theorem d30 : decode yB 30 = .ok (.ifCond (.eq) 28, 3) := by decide +kernel
theorem d33 : decode yB 33 = .ok (.aload_n 1, 1) := by decide +kernel
theorem d34 : decode yB 34 = .ok (.iload_n 2, 1) := by decide +kernel
theorem d35 : decode yB 35 = .ok (.iload_n 3, 1) := by decide +kernel
theorem d36 : decode yB 36 = .ok (.invokestatic 177, 3) := by decide +kernel
theorem d39 : decode yB 39 = .ok (.astore 5, 2) := by decide +kernel
theorem d41 : decode yB 41 = .ok (.aload_n 0, 1) := by decide +kernel
theorem d42 : decode yB 42 = .ok (.aload 5, 2) := by decide +kernel
theorem d44 : decode yB 44 = .ok (.iload_n 3, 1) := by decide +kernel
theorem d45 : decode yB 45 = .ok (.invokestatic 47, 3) := by decide +kernel
theorem d48 : decode yB 48 = .ok (.putfield 15, 3) := by decide +kernel
theorem d51 : decode yB 51 = .ok (.aload_n 0, 1) := by decide +kernel
theorem d52 : decode yB 52 = .ok (.aload 5, 2) := by decide +kernel
theorem d54 : decode yB 54 = .ok (.putfield 9, 3) := by decide +kernel
theorem d57 : decode yB 57 = .ok (.return_, 1) := by decide +kernel
def site : List Cond := [.fieldLink "java/lang/String" 38 "java/lang/String" "COMPACT_STRINGS" "Z", Cmp3.tab, CodL.tab, .laysFinal "java/lang/String" "java/lang/String" "value" "[B", .fieldLink "java/lang/String" 9 "java/lang/String" "value" "[B", .laysFinal "java/lang/String" "java/lang/String" "coder" "B", .fieldLink "java/lang/String" 15 "java/lang/String" "coder" "B"] ++ objW "java/lang/String" 1 ++ staticW "java/lang/String" 177 Cmp3.yN ++ staticW "java/lang/String" 47 CodL.yN
def tab : Cond := tabOf yN yB 6 none site
def P (a : Addr) (D : Cell) (fV fC : Field) (b : Addr) (A : Cell) (z : Int32) (o len : Nat) (args : Array Value) (s : State) : Prop := args = #[.ref a, .ref b, .int (Int32.ofNat o), .int (Int32.ofNat len), .null] ∧ Blank "java/lang/String" a D s ∧ Found "java/lang/String" "value" "[B" fV s ∧ Found "java/lang/String" "coder" "B" fC s ∧ Ch b A s ∧ StaticIs s "java/lang/String" "COMPACT_STRINGS" "Z" (.int z) ∧ ¬ z = 0 ∧ 0 < len ∧ o + len ≤ A.slots.size ∧ len ≤ 536870912 ∧ ∀ i, i < len → ¬ 255 < cv A (o + i)
def E (a : Addr) (D : Cell) (fV fC : Field) (A : Cell) (o len : Nat) (r : Option Value) (s u : State) : Prop := Got a D fV fC A o len r s u
/-- len > 0, no char of the range above 255: a Latin-1 String of their low bytes -/
theorem law (l : Launch) (a : Addr) (D : Cell) (fV fC : Field) (b : Addr) (A : Cell) (z : Int32) (o len : Nat) : Law l yN 5 4 2 35 yB 6 none site (P a D fV fC b A z o len) (E a D fV fC A o len) [⟨a, fC.slot⟩, ⟨a, fV.slot⟩] 1 len := by
  refine Law.of_walk (plainFor_of_name (by decide +kernel)) (by decide +kernel) (by decide +kernel) (by decide) (fun _ _ h => by rw [h.1]; rfl) (fun _ U U' hal hh h => ⟨h.1, h.2.1.mv hal hh, h.2.2.1.al hal, h.2.2.2.1.al hal, h.2.2.2.2.1.mv hal hh, h.2.2.2.2.2.1.there hal hh, h.2.2.2.2.2.2⟩) (fun r U U' V V' h1 hal h2 h => Got.mv r U U' V V' h1 hal h2 h) ?_
  intro p e s m args below meth c s₁ X0 hexec hbytes hml hret hlk hnm hown hh0 W hP
  obtain ⟨rfl, hB, f1, f2, hA, s1, hz, l0, l1, l2, hp⟩ := hP
  have a31 := hA.1.2.2.2
  have c1 : Steps p.tables e below (s₁.setTop (entryFrame m #[.ref a, .ref b, .int (Int32.ofNat o), .int (Int32.ofNat len), .null] 6)) (s₁.setTop (mkF m 0 #[.val (.ref a), .val (.ref b), .val (.int (Int32.ofNat o)), .val (.int (Int32.ofNat len)), .val .null, .unset] [])) := entry rfl
  have c2 : Steps p.tables e below (s₁.setTop (entryFrame m #[.ref a, .ref b, .int (Int32.ofNat o), .int (Int32.ofNat len), .null] 6)) (s₁.setTop (mkF m 1 #[.val (.ref a), .val (.ref b), .val (.int (Int32.ofNat o)), .val (.int (Int32.ofNat len)), .val .null, .unset] [.ref a])) := c1.trans (by
    refine XS.aloadN X0.here hexec rfl (hb hbytes d0) rfl rfl ?_
    exact Steps.refl _)
  obtain ⟨T3, X3, q3, st3⟩ := X0.oinit hexec hown (wks W (objW "java/lang/String" 1)) (g := (mkF m 1 #[.val (.ref a), .val (.ref b), .val (.int (Int32.ofNat o)), .val (.int (Int32.ofNat len)), .val .null, .unset] [.ref a])) rfl (by rw [hml]; rfl) (rest := []) rfl (hb hbytes d1) (W := 0) (by show 2 * 0 + 0 ≤ _; decide) (Nat.le_of_ble_eq_true rfl) (Nat.le_of_ble_eq_true rfl)
  have hh3 := q3.trans hh0
  have c4 : Steps p.tables e below (s₁.setTop (entryFrame m #[.ref a, .ref b, .int (Int32.ofNat o), .int (Int32.ofNat len), .null] 6)) (T3.setTop (mkF m 27 #[.val (.ref a), .val (.ref b), .val (.int (Int32.ofNat o)), .val (.int (Int32.ofNat len)), .val .null, .unset] [])) := (c2.trans (st3 _ (Steps.refl _))).trans (by
    refine XS.iloadN X3.here hexec rfl (hb hbytes d4) rfl ?_
    refine XS.ifYes X3.here hexec rfl (pc0 := 5) rfl (hb hbytes d5) rfl (i0_ne_t (nz32 (by omega) l0)) (by decide) rfl ?_
    exact Steps.refl _)
  obtain ⟨T5, X5, q5, st5⟩ := X3.sget hexec hown (wk W (.fieldLink "java/lang/String" 38 "java/lang/String" "COMPACT_STRINGS" "Z")) s1 (fun _ _ h => by rw [hh3]; exact h) (g := (mkF m 27 #[.val (.ref a), .val (.ref b), .val (.int (Int32.ofNat o)), .val (.int (Int32.ofNat len)), .val .null, .unset] [])) rfl (hb hbytes d27)
  have hh5 := q5.trans hh3
  have c6 : Steps p.tables e below (s₁.setTop (entryFrame m #[.ref a, .ref b, .int (Int32.ofNat o), .int (Int32.ofNat len), .null] 6)) (T5.setTop (mkF m 30 #[.val (.ref a), .val (.ref b), .val (.int (Int32.ofNat o)), .val (.int (Int32.ofNat len)), .val .null, .unset] [.int z])) := c4.trans (st5 _ (Steps.refl _))
  have c7 : Steps p.tables e below (s₁.setTop (entryFrame m #[.ref a, .ref b, .int (Int32.ofNat o), .int (Int32.ofNat len), .null] 6)) (T5.setTop (mkF m 36 #[.val (.ref a), .val (.ref b), .val (.int (Int32.ofNat o)), .val (.int (Int32.ofNat len)), .val .null, .unset] [.int (Int32.ofNat len), .int (Int32.ofNat o), .ref b])) := c6.trans (by
    refine XS.ifNo X5.here hexec rfl (hb hbytes d30) rfl (i0_eq_f hz) ?_
    refine XS.aloadN X5.here hexec rfl (hb hbytes d33) rfl rfl ?_
    refine XS.iloadN X5.here hexec rfl (hb hbytes d34) rfl ?_
    refine XS.iloadN X5.here hexec rfl (hb hbytes d35) rfl ?_
    exact Steps.refl _)
  obtain ⟨v8, T8, X8, E8, g8⟩ := X5.callS hexec (Cmp3.law l b A o len) hown (wks W (staticW "java/lang/String" 177 Cmp3.yN)) (wk W Cmp3.tab) (W := 0) (Nat.le_of_ble_eq_true rfl) (Nat.le_of_ble_eq_true rfl) (Nat.le_refl _) (by show 0 + len ≤ len; omega) (g := (mkF m 36 #[.val (.ref a), .val (.ref b), .val (.int (Int32.ofNat o)), .val (.int (Int32.ofNat len)), .val .null, .unset] [.int (Int32.ofNat len), .int (Int32.ofNat o), .ref b])) rfl (by rw [hml]; rfl) c7 (argsL := [.ref b, .int (Int32.ofNat o), .int (Int32.ofNat len)]) (rest := []) rfl rfl (by show 2 * 0 + 0 ≤ _; decide) (hb hbytes d36) (⟨rfl, hA.mv X5.warmed.alike hh5, l1, l2, hp⟩)
  obtain ⟨e8, z8⟩ := E8
  obtain ⟨rfl, N, n1, n2, n3, n4, n5, n6⟩ := NewArr.mv _ T5 s _ _ hh5.symm (Vm.Alike.refl _) rfl e8
  rw [hh5] at z8
  have hB1 := hB.keep X8.warmed.alike (n6 _ _ hB.1)
  have hne : s.heap.size ≠ a := (Nat.ne_of_lt (Array.getElem?_eq_some_iff.mp hB.1).1).symm
  have c9 : Steps p.tables e below (s₁.setTop (entryFrame m #[.ref a, .ref b, .int (Int32.ofNat o), .int (Int32.ofNat len), .null] 6)) (T8.setTop (mkF m 39 #[.val (.ref a), .val (.ref b), .val (.int (Int32.ofNat o)), .val (.int (Int32.ofNat len)), .val .null, .unset] [.ref s.heap.size])) := g8
  have c10 : Steps p.tables e below (s₁.setTop (entryFrame m #[.ref a, .ref b, .int (Int32.ofNat o), .int (Int32.ofNat len), .null] 6)) (T8.setTop (mkF m 45 #[.val (.ref a), .val (.ref b), .val (.int (Int32.ofNat o)), .val (.int (Int32.ofNat len)), .val .null, .val (.ref s.heap.size)] [.int (Int32.ofNat N.slots.size), .ref s.heap.size, .ref a])) := by
    have hc : Steps p.tables e below (s₁.setTop (entryFrame m #[.ref a, .ref b, .int (Int32.ofNat o), .int (Int32.ofNat len), .null] 6)) (T8.setTop (mkF m 45 #[.val (.ref a), .val (.ref b), .val (.int (Int32.ofNat o)), .val (.int (Int32.ofNat len)), .val .null, .val (.ref s.heap.size)] [.int (Int32.ofNat len), .ref s.heap.size, .ref a])) := c9.trans (by
      refine XS.astore X8.here hexec rfl (hb hbytes d39) rfl rfl rfl ?_
      refine XS.aloadN X8.here hexec rfl (hb hbytes d41) rfl rfl ?_
      refine XS.aload X8.here hexec rfl (hb hbytes d42) rfl rfl ?_
      refine XS.iloadN X8.here hexec rfl (hb hbytes d44) rfl ?_
      exact Steps.refl _)
    rw [n4]; exact hc
  obtain ⟨v11, T11, X11, E11, g11⟩ := X8.callS hexec (CodL.law l s.heap.size N) hown (wks W (staticW "java/lang/String" 47 CodL.yN)) (wk W CodL.tab) (W := 1) (Nat.le_of_ble_eq_true rfl) (Nat.le_of_ble_eq_true rfl) (Nat.le_refl _) (by show 0 + len + 0 ≤ len; omega) (g := (mkF m 45 #[.val (.ref a), .val (.ref b), .val (.int (Int32.ofNat o)), .val (.int (Int32.ofNat len)), .val .null, .val (.ref s.heap.size)] [.int (Int32.ofNat N.slots.size), .ref s.heap.size, .ref a])) rfl (by rw [hml]; rfl) c10 (argsL := [.ref s.heap.size, .int (Int32.ofNat N.slots.size)]) (rest := [.ref a]) rfl rfl (by show 2 * 0 + (1 + 0) ≤ _; decide) (hb hbytes d45) (⟨rfl, n1⟩)
  obtain ⟨rfl, q11⟩ := E11
  have hB11 := hB1.mv (X8.warmed.alike.symm.trans X11.warmed.alike) q11
  have c12 : Steps p.tables e below (s₁.setTop (entryFrame m #[.ref a, .ref b, .int (Int32.ofNat o), .int (Int32.ofNat len), .null] 6)) (T11.setTop (mkF m 48 #[.val (.ref a), .val (.ref b), .val (.int (Int32.ofNat o)), .val (.int (Int32.ofNat len)), .val .null, .val (.ref s.heap.size)] [.int 0, .ref a])) := g11
  obtain ⟨T13, X13, p13, bl13, sl13, st13⟩ := X11.finit hexec hown (wk W (.fieldLink "java/lang/String" 15 "java/lang/String" "coder" "B")) (Or.inr ⟨_, (wk W (.laysFinal "java/lang/String" "java/lang/String" "coder" "B"))⟩) (Or.inl ⟨rfl, hnm⟩) f2 (Or.inl rfl) hB11 (t := .byte) (by decide +kernel) rfl (g := (mkF m 48 #[.val (.ref a), .val (.ref b), .val (.int (Int32.ofNat o)), .val (.int (Int32.ofNat len)), .val .null, .val (.ref s.heap.size)] [.int 0, .ref a])) rfl (rest := []) rfl (hb hbytes d48)
  have c14 : Steps p.tables e below (s₁.setTop (entryFrame m #[.ref a, .ref b, .int (Int32.ofNat o), .int (Int32.ofNat len), .null] 6)) (T13.setTop (mkF m 54 #[.val (.ref a), .val (.ref b), .val (.int (Int32.ofNat o)), .val (.int (Int32.ofNat len)), .val .null, .val (.ref s.heap.size)] [.ref s.heap.size, .ref a])) := (c12.trans (st13 _ (Steps.refl _))).trans (by
    refine XS.aloadN X13.here hexec rfl (hb hbytes d51) rfl rfl ?_
    refine XS.aload X13.here hexec rfl (hb hbytes d52) rfl rfl ?_
    exact Steps.refl _)
  obtain ⟨T15, X15, p15, bl15, sl15, st15⟩ := X13.finit hexec hown (wk W (.fieldLink "java/lang/String" 9 "java/lang/String" "value" "[B")) (Or.inr ⟨_, (wk W (.laysFinal "java/lang/String" "java/lang/String" "value" "[B"))⟩) (Or.inl ⟨rfl, hnm⟩) f1 (Or.inl rfl) bl13 (t := (.array .byte)) (by decide +kernel) rfl (g := (mkF m 54 #[.val (.ref a), .val (.ref b), .val (.int (Int32.ofNat o)), .val (.int (Int32.ofNat len)), .val .null, .val (.ref s.heap.size)] [.ref s.heap.size, .ref a])) rfl (rest := []) rfl (hb hbytes d54)
  have c16 : Steps p.tables e below (s₁.setTop (entryFrame m #[.ref a, .ref b, .int (Int32.ofNat o), .int (Int32.ofNat len), .null] 6)) (T15.setTop (mkF m 57 #[.val (.ref a), .val (.ref b), .val (.int (Int32.ofNat o)), .val (.int (Int32.ofNat len)), .val .null, .val (.ref s.heap.size)] [])) := c14.trans (st15 _ (Steps.refl _))
  have ap := apart (Or.inr ⟨_, (wk W (.laysFinal "java/lang/String" "java/lang/String" "value" "[B"))⟩) (Or.inr ⟨_, (wk W (.laysFinal "java/lang/String" "java/lang/String" "coder" "B"))⟩) f1 f2 (t₁ := .array .byte) (t₂ := .byte) (by decide +kernel) (by decide +kernel) (by decide)
  have al := X8.warmed.alike.symm.trans X15.warmed.alike
  have n7 : T11.heap[s.heap.size]? = some N := by rw [q11]; exact n1.1
  exact ⟨T15, none, _, _, _, X15, by simp, rfl, by omega, (fun _ => rfl), ⟨rfl, _, N, bl15, ((Same.refl D _).set _ (by simp)).set _ (by simp), sl15, (Cell.slots_setSlot_ne _ ap).trans sl13, n1.keep al (p15.other hne (p13.other hne n7)), n2, by rw [al.findClass]; exact n3, n4, n5, fun y c h1 h2 => p15.other h1 (p13.other h1 (by rw [q11]; exact n6 y c h2)), by rw [p15.2.2, p13.2.2, q11]; exact z8⟩, fun fs hl => c16.trans (X15.returnOut hexec hret (hb hbytes d57) hl)⟩
end New4
namespace New1
def yN : MethodName := ⟨"java/lang/String", "<init>", "([C)V"⟩
abbrev yB : ByteArray := jdk_42_method_3_code
theorem d0 : decode yB 0 = .ok (.aload_n 0, 1) := by decide +kernel
theorem d1 : decode yB 1 = .ok (.aload_n 1, 1) := by decide +kernel
theorem d2 : decode yB 2 = .ok (.iconst 0, 1) := by decide +kernel
theorem d3 : decode yB 3 = .ok (.aload_n 1, 1) := by decide +kernel
theorem d4 : decode yB 4 = .ok (.arraylength, 1) := by decide +kernel
theorem d5 : decode yB 5 = .ok (.aconst_null, 1) := by decide +kernel
theorem d6 : decode yB 6 = .ok (.invokespecial 27, 3) := by decide +kernel
theorem d9 : decode yB 9 = .ok (.return_, 1) := by decide +kernel
def site : List Cond := [New4.tab] ++ initW "java/lang/String" 27 New4.yN
def tab : Cond := tabOf yN yB 2 none site
def P (a : Addr) (D : Cell) (fV fC : Field) (b : Addr) (A : Cell) (z : Int32) (args : Array Value) (s : State) : Prop := args = #[.ref a, .ref b] ∧ Blank "java/lang/String" a D s ∧ Found "java/lang/String" "value" "[B" fV s ∧ Found "java/lang/String" "coder" "B" fC s ∧ Ch b A s ∧ StaticIs s "java/lang/String" "COMPACT_STRINGS" "Z" (.int z) ∧ ¬ z = 0 ∧ 0 < A.slots.size ∧ A.slots.size ≤ 536870912 ∧ ∀ i, i < A.slots.size → ¬ 255 < cv A i
def E (a : Addr) (D : Cell) (fV fC : Field) (A : Cell) (r : Option Value) (s u : State) : Prop := Got a D fV fC A 0 A.slots.size r s u
/-- new String(chars), not empty, no char above 255: a Latin-1 String of their low bytes -/
theorem law (l : Launch) (a : Addr) (D : Cell) (fV fC : Field) (b : Addr) (A : Cell) (z : Int32) : Law l yN 2 1 3 52 yB 2 none site (P a D fV fC b A z) (E a D fV fC A) [⟨a, fC.slot⟩, ⟨a, fV.slot⟩] 1 A.slots.size := by
  refine Law.of_walk (plainFor_of_name (by decide +kernel)) (by decide +kernel) (by decide +kernel) (by decide) (fun _ _ h => by rw [h.1]; rfl) (fun _ U U' hal hh h => ⟨h.1, h.2.1.mv hal hh, h.2.2.1.al hal, h.2.2.2.1.al hal, h.2.2.2.2.1.mv hal hh, h.2.2.2.2.2.1.there hal hh, h.2.2.2.2.2.2⟩) (fun r U U' V V' h1 hal h2 h => Got.mv r U U' V V' h1 hal h2 h) ?_
  intro p e s m args below meth c s₁ X0 hexec hbytes hml hret hlk hnm hown hh0 W hP
  obtain ⟨rfl, hB, f1, f2, hA, s1, hz, l0, l2, hp⟩ := hP
  have c1 : Steps p.tables e below (s₁.setTop (entryFrame m #[.ref a, .ref b] 2)) (s₁.setTop (mkF m 0 #[.val (.ref a), .val (.ref b)] [])) := entry rfl
  have c2 : Steps p.tables e below (s₁.setTop (entryFrame m #[.ref a, .ref b] 2)) (s₁.setTop (mkF m 6 #[.val (.ref a), .val (.ref b)] [.null, .int (Int32.ofNat A.slots.size), .int 0, .ref b, .ref a])) := c1.trans (by
    refine XS.aloadN X0.here hexec rfl (hb hbytes d0) rfl rfl ?_
    refine XS.aloadN X0.here hexec rfl (hb hbytes d1) rfl rfl ?_
    refine iconstV X0.here hexec rfl 0 (hb hbytes d2) (by decide) ?_
    refine XS.aloadN X0.here hexec rfl (hb hbytes d3) rfl rfl ?_
    refine X0.alen hexec (hA.1.mv X0.warmed.alike hh0) rfl rfl (hb hbytes d4) ?_
    refine XS.aconstNull X0.here hexec rfl (hb hbytes d5) ?_
    exact Steps.refl _)
  obtain ⟨v3, T3, X3, E3, g3⟩ := X0.callN hexec (New4.law l a D fV fC b A z 0 A.slots.size) rfl hown (wks W (initW "java/lang/String" 27 New4.yN)) (W New4.tab (by simp only [site, List.mem_cons, List.mem_append, true_or, or_true])) (W := 0) (Nat.le_of_ble_eq_true rfl) (Nat.le_of_ble_eq_true rfl) (Nat.le_refl _) (by show 0 + A.slots.size ≤ A.slots.size; omega) (g := (mkF m 6 #[.val (.ref a), .val (.ref b)] [.null, .int (Int32.ofNat A.slots.size), .int (Int32.ofNat 0), .ref b, .ref a])) rfl (by rw [hml]; rfl) c2 (argsL := [.ref b, .int (Int32.ofNat 0), .int (Int32.ofNat A.slots.size), .null]) (rest := []) rfl rfl (by show 2 * 0 + 0 ≤ _; decide) (hb hbytes d6) (⟨rfl, hB.mv X0.warmed.alike hh0, f1.al X0.warmed.alike, f2.al X0.warmed.alike, hA.mv X0.warmed.alike hh0, s1.there X0.warmed.alike hh0, hz, l0, by omega, l2, fun i hi => by rw [Nat.zero_add]; exact hp i hi⟩)
  have e0 := Got.mv _ s₁ s _ _ hh0.symm (Vm.Alike.refl _) rfl E3
  obtain rfl := e0.1
  have c4 : Steps p.tables e below (s₁.setTop (entryFrame m #[.ref a, .ref b] 2)) (T3.setTop (mkF m 9 #[.val (.ref a), .val (.ref b)] [])) := g3
  exact ⟨T3, none, _, _, _, X3, by simp, rfl, by omega, (fun _ => rfl), e0, fun fs hl => c4.trans (X3.returnOut hexec hret (hb hbytes d9) hl)⟩
theorem pays {l : Launch} {R : Room} {p : Program} {e : Env} {below : List Frame} {s : State} {sargs : Array Value} {len W : Nat} (a : Addr) (D : Cell) (fV fC : Field) (b : Addr) (A : Cell) (z : Int32) (htab : tab.before sargs s = true) (hfr : 4 ≤ R.frames) (hlo : W + 65 ≤ R.locals) :
    Back l R p e below s sargs yN len W (fun A₁ a₁ => A₁.cells + 1 ≤ R.cells ∧ A₁.slots + A.slots.size ≤ R.slots ∧ P a D fV fC b A z a₁ A₁.U) (fun A₁ _ v₁ B₁ => E a D fV fC A v₁ A₁.U B₁.U ∧ B₁.locs = A₁.locs ++ [⟨a, fC.slot⟩, ⟨a, fV.slot⟩] ∧ B₁.cells = A₁.cells + 1 ∧ B₁.slots = A₁.slots + A.slots.size) :=
  (law l a D fV fC b A z).pays htab hfr (by omega)
end New1
/-- the byte, read back as charAt reads it, is the char -/
theorem lo8_mask {x : Int32} (h0 : ¬ x < 0) (h1 : ¬ 255 < x) : lo8 x &&& 255 = x := by
  have t : ∀ k : Fin 256, lo8 (Int32.ofNat k.val) &&& 255 = Int32.ofNat k.val := by decide +kernel
  rw [Int32.lt_iff_toInt_lt] at h0 h1
  have e0 : (0 : Int32).toInt = 0 := rfl
  have e1 : (255 : Int32).toInt = 255 := rfl
  obtain ⟨k, hk⟩ : ∃ k : Nat, x.toInt = k := ⟨x.toInt.toNat, by omega⟩
  have hx : x = Int32.ofNat k := Int32.toInt_inj.mp (by rw [hk, Int32.toInt_ofNat_small (by omega)])
  rw [hx]
  exact t ⟨k, by omega⟩
end StrChars
namespace StrChars.Road
open Jvm Sem ClassFile Op Lib Jvm.Stand Jvm.Free Jvm.Free.XT
open Jvm.Lib.Cold (StaticIs)
abbrev ST : String := "java/lang/String"
/-- every table word that New1's law asks, flat -/
abbrev words : List Jvm.Cond := [.code New1.yN New1.yB 2 none, .initialized ST, .methodLink ST 27 New4.yN, .instanceMethod New4.yN,
  .code New4.yN New4.yB 6 none, .fieldLink ST 38 ST "COMPACT_STRINGS" "Z", .laysFinal ST ST "value" "[B", .fieldLink ST 9 ST "value" "[B", .laysFinal ST ST "coder" "B", .fieldLink ST 15 ST "coder" "B",
  .methodLink ST 1 Lib.objectInit, .instanceMethod Lib.objectInit, .code Lib.objectInit ⟨#[0xb1]⟩ 1 none, .methodLink ST 177 Cmp3.yN, .static Cmp3.yN, .methodLink ST 47 CodL.yN, .static CodL.yN,
  .code Cmp3.yN Cmp3.yB 6 (some (.array .byte)), .initialized U16, .arrayClass .byte, .methodLink U16 115 Cmp5.yN, .static Cmp5.yN, .code Cmp5.yN Cmp5.yB 7 (some .int), .code CodL.yN CodL.yB 2 (some .byte)]
theorem tab_of {a : Array Value} {s : State} (h : ∀ w ∈ words, w.before a s = true) : New1.tab.before a s = true := by
  have h5 : Cmp5.tab.before a s = true := unparts (wk h (.code Cmp5.yN Cmp5.yB 7 (some .int))) (wks h (.initialized Cmp5.yN.cls :: Cmp5.site))
  have hc : CodL.tab.before a s = true := unparts (wk h (.code CodL.yN CodL.yB 2 (some .byte))) (wks h (.initialized CodL.yN.cls :: CodL.site))
  have q5 : ∀ w ∈ Cmp5.tab :: words, w.before a s = true := fun w hw => (List.mem_cons.mp hw).elim (fun e => e ▸ h5) (h w)
  have h3 : Cmp3.tab.before a s = true := unparts (wk q5 (.code Cmp3.yN Cmp3.yB 6 (some (.array .byte)))) (wks q5 (.initialized Cmp3.yN.cls :: Cmp3.site))
  have q3 : ∀ w ∈ Cmp3.tab :: CodL.tab :: words, w.before a s = true := fun w hw => (List.mem_cons.mp hw).elim (fun e => e ▸ h3) fun hw => (List.mem_cons.mp hw).elim (fun e => e ▸ hc) (h w)
  have h4 : New4.tab.before a s = true := unparts (wk q3 (.code New4.yN New4.yB 6 none)) (wks q3 (.initialized New4.yN.cls :: New4.site))
  have q4 : ∀ w ∈ New4.tab :: words, w.before a s = true := fun w hw => (List.mem_cons.mp hw).elim (fun e => e ▸ h4) (h w)
  exact unparts (wk q4 (.code New1.yN New1.yB 2 none)) (wks q4 (.initialized New1.yN.cls :: New1.site))
/-- the words ride from the start Z to the walk's own state -/
theorem moved {Z s : State} {a0 args : Array Value} (hZ : Z.Warmed39 s.vm) (hw : ∀ d ∈ words, d.before a0 Z = true) : ∀ d ∈ words, d.before args s = true := fun d hd => by
  have q := hw d hd
  have t : ∀ d ∈ words, d = .arrayClass .byte ∨ (d.onTables && d.keepsFace) = true := by decide +kernel
  rcases t d hd with rfl | t
  · exact RoadKit.mvA hZ q
  · exact RoadKit.mv hZ q t
/-- WHAT COMES BACK, over the tables of the start Z: h the heap at the call, h' behind it -/
def Q (Z : State) (x : Addr) (A : Cell) (h : Heap) (v : Option Value) (h' : Heap) (L : List Loc) : Prop := v = none ∧ (∀ y ∈ L, y.base = x) ∧ RoadKit.Keep h h' [x] ∧ h'.size = h.size + 1 ∧ RoadKit.Exa Z h' x ST ∧ RoadKit.Fld Z h' x ST "value" "[B" (.ref h.size) ∧ RoadKit.Fld Z h' x ST "coder" "B" (.int 0) ∧
  (∃ V : Cell, RoadKit.Arr Z h' h.size V .byte ∧ V.vm = .none ∧ Z.vm.findClass "[B" = some V.cls ∧ V.slots.size = A.slots.size ∧ ∀ j, j < A.slots.size → V.slots[j]? = some (.int (lo8 (cv A j)))) ∧
  ∀ (O n d : String) (w : Value), RoadKit.Fld Z h x O n d w → RoadKit.slotOf Z O n d ≠ RoadKit.slotOf Z ST "value" "[B" → RoadKit.slotOf Z O n d ≠ RoadKit.slotOf Z ST "coder" "B" → RoadKit.Fld Z h' x O n d w
/-- **new String(chars) AT A CALL, IN THE ROAD'S FORM**: for specialBack behind newO: x the fresh String, b the char[] with the cell A -/
theorem back {p : Program} {l : Launch} {e : Env} {R : Room} {s : State} {args : Array Value} {below : List Frame} {len W : Nat} {Z : State} {a0 : Array Value} {h : Heap} (hZ : Z.Warmed39 s.vm) (hw : ∀ d ∈ words, d.before a0 Z = true) {kI : Nat} (wi : (Jvm.Cond.instantiable ST kI).before a0 Z = true)
    {x b : Addr} {A : Cell} {z : Int32} {v0 c0 : Value} (E : RoadKit.Exa Z h x ST) (V : RoadKit.Fld Z h x ST "value" "[B" v0) (C : RoadKit.Fld Z h x ST "coder" "B" c0) (K : RoadKit.Arr Z h b A .char) (hty : Typed .char A) (S : RoadKit.Sta Z h ST "COMPACT_STRINGS" "Z" (.int z)) (hz : ¬ z = 0)
    (l0 : 0 < A.slots.size) (l2 : A.slots.size ≤ 536870912) (hp : ∀ i, i < A.slots.size → ¬ 255 < cv A i) (hfr : 4 ≤ R.frames) (hlo : W + 65 ≤ R.locals) :
    Back l R p e below s args New1.yN len W (fun P a => a = #[.ref x, .ref b] ∧ P.U.heap = h ∧ P.cells + 1 ≤ R.cells ∧ P.slots + A.slots.size ≤ R.slots)
      (fun P _ v B => ∃ L, Q Z x A h v B.U.heap L ∧ B.locs = P.locs ++ L ∧ B.cells = P.cells + 1 ∧ B.slots = P.slots + A.slots.size) := by
  intro m meth c P g ig mk a X hg hsize hdg hW hn hp'
  obtain ⟨rfl, rfl, r1, r2⟩ := hp'
  have al : Z.vm.Alike P.U.vm := hZ.alike.trans X.warmed.alike
  obtain ⟨D, cfV, kV, iV, fV, hD, gV, stV, knV, obV, asV, slV⟩ := id V
  obtain ⟨D', cfC, kC, iC, fC, hD', gC, stC, -, -, asC, slC⟩ := id C
  cases hD.symm.trans hD'
  obtain ⟨D2, kD, e1, e2, e3, e4, e5⟩ := id E
  cases hD.symm.trans e1
  obtain ⟨c2, k2, i1, i2, i3, -⟩ := Cond.instantiable_spec wi
  cases e2.symm.trans i1
  cases e3.symm.trans i2
  obtain ⟨kU, u1, u2⟩ := al.2.2 _ _ e3
  have hB : Blank ST x D P.U := ⟨hD, ⟨knV, fun q hq => by rw [hq] at obV; cases obV⟩, by rw [al.findClass]; exact e2, kU, u1, by rw [u2]; exact i3, by rw [u2]; exact e5 i3⟩
  have F1 : Found ST "value" "[B" fV P.U := ⟨SBG.found_only al ⟨cfV, kV, iV, gV⟩, stV⟩
  have F2 : Found ST "coder" "B" fC P.U := ⟨SBG.found_only al ⟨cfC, kC, iC, gC⟩, stC⟩
  have hA : Ch b A P.U := ⟨⟨K.1, State.isArrayOf_alike al K.2.1, K.2.2, by omega⟩, hty⟩
  have hS : StaticIs P.U ST "COMPACT_STRINGS" "Z" (.int z) := by
    obtain ⟨cfS, iS, kS, fS, st, cS, t1, t2, t3, t4, t5, t6, t7⟩ := S
    exact StaticIs.there (s := { Z with heap := P.U.heap }) ⟨cfS, iS, kS, fS, st, cS, t1, t2, t3, t4, t5, (fun q => by rw [q] at t6; cases t6), t7⟩ al rfl
  obtain ⟨v, B, X', ⟨⟨hv, E', V', q1, q2, q3, q4, q5, q6, q7, q8, q9, q10, q11⟩, hl, hc, hs⟩, st⟩ := New1.pays x D fV fC b A z (tab_of (moved hZ hw)) hfr hlo m meth c P g ig mk _ X hg hsize hdg hW hn ⟨r1, r2, rfl, hB, F1, F2, hA, hS, hz, l0, l2, hp⟩
  have al' : Z.vm.Alike B.U.vm := hZ.alike.trans X'.warmed.alike
  have hsz : E'.slots.size = D.slots.size := by
    obtain ⟨-, -, -, kB, w1, w2, w3⟩ := q1
    obtain ⟨kB', y1, y2⟩ := al'.2.2 _ _ e3
    rw [q2.2.1] at w1
    cases w1.symm.trans y1
    rw [w3, e5 i3, y2]
  refine ⟨v, B, X', ⟨_, ⟨hv, ?_, ⟨by omega, fun y cy hy hn' => q10 y cy (by simpa using hn') hy, fun y cy hy => ?_⟩, q11, ⟨E', _, q1.1, by rw [q2.2.1]; exact e2, by rw [q2.2.1]; exact e3, by rw [q2.1]; exact obV, fun _ => by rw [hsz]; exact e5 i3⟩,
    ⟨E', cfV, kV, iV, fV, q1.1, gV, stV, by rw [q2.1]; exact knV, by rw [q2.1]; exact obV, by rw [q2.2.1]; exact asV, q3⟩, ⟨E', cfC, kC, iC, fC, q1.1, gC, stC, by rw [q2.1]; exact knV, by rw [q2.1]; exact obV, by rw [q2.2.1]; exact asC, q4⟩,
    ⟨V', ⟨q5.1, State.isArrayOf_alike al'.symm q5.2.1, q5.2.2.1⟩, q6, by rw [← al'.findClass]; exact q7, q8, fun j hj => by have := q9 j hj; rwa [Nat.zero_add] at this⟩, fun O n d w F n1 n2 => ?_⟩, hl, hc, hs⟩, st⟩
  · intro y hy
    simp only [List.mem_cons, List.not_mem_nil, or_false] at hy
    rcases hy with rfl | rfl <;> rfl
  · by_cases q : y = x
    · subst q
      cases hD.symm.trans hy
      exact ⟨E', q1.1, q2.2.1, q2.1, hsz⟩
    · exact ⟨cy, q10 y cy q hy, rfl, rfl, rfl⟩
  · obtain ⟨D3, cf, k, i, f, g1, g2, g3, g4, g5, g6, g7⟩ := F
    cases hD.symm.trans g1
    simp only [RoadKit.slotOf, g2, gV, gC, Option.map_some, Option.getD_some] at n1 n2
    exact ⟨E', cf, k, i, f, q1.1, g2, g3, by rw [q2.1]; exact g4, by rw [q2.1]; exact g5, by rw [q2.2.1]; exact g6, by rw [q2.2.2 f.slot (by simp [n1, n2])]; exact g7⟩
end StrChars.Road
namespace StrChars.Road
open Jvm Sem ClassFile Op Lib Jvm.Stand Jvm.Free Jvm.Free.XT
/-- WHAT COMES BACK, the byte[] as a list of values -/
def QA (Z : State) (x : Addr) (zn : Int32) (cs : List Int32) (h : Heap) (v : Option Value) (h' : Heap) (L : List Loc) : Prop := v = none ∧ (∀ y ∈ L, y.base = x) ∧ RoadKit.Keep h h' [x] ∧ h'.size = h.size + 1 ∧ RoadKit.Exa Z h' x ST ∧ RoadKit.Fld Z h' x ST "value" "[B" (.ref h.size) ∧ RoadKit.Fld Z h' x ST "coder" "B" (.int 0) ∧
  (∃ kb, Z.vm.findClass "[B" = some kb ∧ RoadKit.Arv Z h' h.size kb .byte zn (cs.map fun c => .int (lo8 c)) (.int 0)) ∧
  ∀ (O n d : String) (w : Value), RoadKit.Fld Z h x O n d w → RoadKit.slotOf Z O n d ≠ RoadKit.slotOf Z ST "value" "[B" → RoadKit.slotOf Z O n d ≠ RoadKit.slotOf Z ST "coder" "B" → RoadKit.Fld Z h' x O n d w
/-- **new String(chars) AT A CALL, THE ARRAYS AS LISTS**: the char[] at b holds cs, not empty, no char above 255 -/
theorem backArv {p : Program} {l : Launch} {e : Env} {R : Room} {s : State} {args : Array Value} {below : List Frame} {len W : Nat} {Z : State} {a0 : Array Value} {h : Heap} (hZ : Z.Warmed39 s.vm) (hw : ∀ d ∈ words, d.before a0 Z = true) {kI : Nat} (wi : (Jvm.Cond.instantiable ST kI).before a0 Z = true)
    {x b : Addr} {k : ClassId} {zn z : Int32} {cs : List Int32} {dv v0 c0 : Value} (E : RoadKit.Exa Z h x ST) (V : RoadKit.Fld Z h x ST "value" "[B" v0) (C : RoadKit.Fld Z h x ST "coder" "B" c0) (K : RoadKit.Arv Z h b k .char zn (cs.map Value.int) dv) (S : RoadKit.Sta Z h ST "COMPACT_STRINGS" "Z" (.int z)) (hz : ¬ z = 0)
    (hlen : zn.toNatClampNeg = cs.length) (h0 : 0 < cs.length) (hbig : cs.length ≤ 536870912) (hall : ∀ c ∈ cs, ¬ 255 < c) (hfr : 4 ≤ R.frames) (hlo : W + 65 ≤ R.locals) :
    Back l R p e below s args New1.yN len W (fun P a => a = #[.ref x, .ref b] ∧ P.U.heap = h ∧ P.cells + 1 ≤ R.cells ∧ P.slots + cs.length ≤ R.slots)
      (fun P _ v B => ∃ L, QA Z x zn cs h v B.U.heap L ∧ B.locs = P.locs ++ L ∧ B.cells = P.cells + 1 ∧ B.slots = P.slots + cs.length) := by
  obtain ⟨A, K1, K2, K3, K4, K5, K6⟩ := K
  have e : A.slots.size = cs.length := K3.trans hlen
  have hat : ∀ (i : Nat) (hi : i < cs.length), A.slots[i]? = some (.int cs[i]) := fun i hi => by rw [K5 i (by omega)]; simp [List.getD_eq_getElem?_getD, hi]
  have hcv : ∀ (i : Nat) (hi : i < cs.length), cv A i = cs[i] := fun i hi => by unfold cv; rw [hat i hi]
  have hty : Typed .char A := fun i v hv => by
    have hi : i < A.slots.size := (Array.getElem?_eq_some_iff.mp hv).1
    have q := K5 i hi
    rw [hv] at q
    rw [Option.some.inj q]
    exact K6 i hi
  refine Back.mono (back hZ hw wi E V C K1 hty S hz (by omega) (by omega) (fun i hi => by rw [hcv i (by omega)]; exact hall _ (List.getElem_mem _)) hfr hlo) (fun P a hp => ⟨hp.1, hp.2.1, hp.2.2.1, by rw [e]; exact hp.2.2.2⟩) (fun P a v B hp hq => ?_)
  obtain ⟨L, ⟨q1, q2, q3, q4, q5, q6, q7, ⟨V', v1, v2, v3, v4, v5⟩, q9⟩, hl, hc, hs⟩ := hq
  refine ⟨L, ⟨q1, q2, q3, q4, q5, q6, q7, ⟨V'.cls, v3, V', v1, rfl, by rw [v4, e, hlen], K4, fun i hi => ?_, fun i hi => ?_⟩, q9⟩, hl, hc, by rw [hs, e]⟩
  · have hi' : i < cs.length := by omega
    rw [v5 i (by omega), hcv i hi']; simp [List.getD_eq_getElem?_getD, hi']
  · have hi' : i < cs.length := by omega
    simp only [List.getD_eq_getElem?_getD, List.getElem?_map, List.getElem?_eq_getElem hi', Option.map_some, Option.getD_some]
    exact fits_lo8 _
end StrChars.Road
namespace StrChars.Road
open Jvm Sem ClassFile Op Lib Jvm.Stand Jvm.Free Jvm.Free.XT
/-- WHAT COMES BACK, in the writer's own shape -/
def QV (Z : State) (x : Addr) (N : Int32) (bs : List Int32) (h : Heap) (n0 : Nat) (v : Option Value) (h' : Heap) (L : List Loc) : Prop := v = none ∧ RoadKit.Fr n0 L ∧ RoadKit.Keep h h' [x] ∧ RoadKit.Exa Z h' x ST ∧ RoadKit.Fld Z h' x ST "coder" "B" (.int 0) ∧
  ∃ (t : Addr) (kb : ClassId), n0 ≤ t ∧ h.size ≤ t ∧ ¬ t = x ∧ RoadKit.Fld Z h' x ST "value" "[B" (.ref t) ∧ RoadKit.Arv Z h' t kb .byte N (bs.map Value.int) (.int 0)
/-- **new String(chars) AT A CALL, FOR THE WRITER**: a char[] of n known ints, each 0 to 255 -/
theorem backV {p : Program} {l : Launch} {e : Env} {R : Room} {s : State} {args : Array Value} {below : List Frame} {len W : Nat} {Z : State} {a0 : Array Value} {h : Heap} (hZ : Z.Warmed39 s.vm) (hw : ∀ d ∈ words, d.before a0 Z = true) {kI : Nat} (wi : (Jvm.Cond.instantiable ST kI).before a0 Z = true)
    {x b : Addr} {kC : ClassId} {cs bs : List Int32} {d v0 c0 : Value} {z N : Int32} {n n0 : Nat} (hx0 : n0 ≤ x) (hh0 : n0 ≤ h.size) (E : RoadKit.Exa Z h x ST) (V : RoadKit.Fld Z h x ST "value" "[B" v0) (C : RoadKit.Fld Z h x ST "coder" "B" c0) (K : RoadKit.Arv Z h b kC .char N (cs.map Value.int) d) (S : RoadKit.Sta Z h ST "COMPACT_STRINGS" "Z" (.int z)) (hz : ¬ z = 0)
    (hn : cs.length = n) (hN : N = Int32.ofNat n) (l0 : 0 < n) (l2 : n ≤ 4000) (hp : ∀ c ∈ cs, ¬ c < 0 ∧ ¬ (255 : Int32) < c) (hb : bs = cs.map (fun c => c.toInt8.toInt32)) (hfr : 4 ≤ R.frames) (hlo : W + 65 ≤ R.locals) :
    Back l R p e below s args (⟨"java/lang/String", "<init>", "([C)V"⟩ : MethodName) len W (fun P a => a = #[.ref x, .ref b] ∧ P.U.heap = h ∧ P.cells + 1 ≤ R.cells ∧ P.slots + n ≤ R.slots)
      (fun P _ v B => ∃ L, QV Z x N bs h n0 v B.U.heap L ∧ B.locs = P.locs ++ L ∧ B.cells = P.cells + 1 ∧ B.slots = P.slots + n) := by
  subst hn hN hb
  refine Back.mono (backArv hZ hw wi E V C K S hz (n32 (by omega)) l0 (by omega) (fun c hc => (hp c hc).2) hfr hlo) (fun P a hp => hp) (fun P a v B hp hq => ?_)
  obtain ⟨L, ⟨q1, q2, q3, q4, q5, q6, q7, ⟨kb, v1, v2⟩, q9⟩, hl, hc, hs⟩ := hq
  exact ⟨L, ⟨q1, fun y hy => by rw [q2 y hy]; exact hx0, q3, q5, q7, h.size, kb, hh0, Nat.le_refl _, Nat.ne_of_gt E.lt, q6, by rw [List.map_map]; exact v2⟩, hl, hc, hs⟩
end StrChars.Road
namespace StrChars
open Jvm Sem ClassFile Op Lib Jvm.Stand Jvm.Free.XT Jvm.Free.ALB Jvm.Free.JM Jvm.Free
open Jvm.Lib.Cold (StaticIs)
def hi8 (x : Int32) : Int32 := lo8 (x >>> ((8 : Int32) &&& 31))
/-- what StringUTF16.getChar makes of two bytes -/
def pairCh (u v : Int32) : Int32 := (((u &&& 255) <<< ((0 : Int32) &&& 31)) ||| ((v &&& 255) <<< ((8 : Int32) &&& 31))).toUInt32.toUInt16.toUInt32.toInt32
theorem lo8_and (x : Int32) : (lo8 x &&& 255).toBitVec.toNat = x.toBitVec.toNat % 256 := by
  have h : (lo8 x).toBitVec = (x.toBitVec.signExtend 8).signExtend 32 := by rw [lo8, Int8.toBitVec_toInt32, Int32.toBitVec_toInt8]
  rw [Int32.toBitVec_and, BitVec.toNat_and, h]
  have e : ((x.toBitVec.signExtend 8).signExtend 32).toNat % 256 = x.toBitVec.toNat % 256 := by
    rw [BitVec.toNat_signExtend]
    have hlt := x.toBitVec.isLt
    simp only [BitVec.toNat_setWidth, BitVec.toNat_signExtend]
    split <;> split <;> omega
  rw [← e]
  exact Nat.and_two_pow_sub_one_eq_mod _ 8
theorem pair_says {c : Int32} (h0 : ¬ c < 0) (h1 : ¬ 65535 < c) : pairCh (lo8 c) (hi8 c) = c := by
  rw [Int32.lt_iff_toInt_lt] at h0 h1
  have e0 : (0 : Int32).toInt = 0 := rfl
  have e1 : (65535 : Int32).toInt = 65535 := rfl
  have hc : c.toInt = c.toBitVec.toNat := by
    have := c.toBitVec.isLt
    have e : c.toInt = c.toBitVec.toInt := rfl
    rw [e] at h0 h1
    rw [e]
    rw [BitVec.toInt_eq_toNat_cond] at h0 h1 ⊢
    split at h0 <;> split <;> omega
  have hn : c.toBitVec.toNat < 65536 := by omega
  have a1 := lo8_and c
  have a2 : (hi8 c &&& 255).toBitVec.toNat = c.toBitVec.toNat / 256 := by
    rw [hi8, lo8_and]
    have e : ((8 : Int32) &&& 31) = 8 := by decide
    rw [e, Int32.toBitVec_shiftRight]
    have e2 : ((8 : Int32).toBitVec.smod 32) = 8#32 := by decide
    rw [e2, BitVec.sshiftRight_eq', BitVec.toNat_sshiftRight_of_msb_false (by rw [BitVec.msb_eq_false_iff_two_mul_lt]; omega)]
    show c.toBitVec.toNat >>> 8 % 256 = _
    rw [Nat.shiftRight_eq_div_pow]
    omega
  unfold pairCh
  apply Int32.toBitVec_inj.mp
  apply BitVec.eq_of_toNat_eq
  have f0 : ((0 : Int32) &&& 31) = 0 := by decide
  have f8 : ((8 : Int32) &&& 31) = 8 := by decide
  rw [f0, f8]
  have g : (((lo8 c &&& 255) <<< (0 : Int32)) ||| ((hi8 c &&& 255) <<< (8 : Int32))).toBitVec.toNat = c.toBitVec.toNat := by
    rw [Int32.toBitVec_or, Int32.toBitVec_shiftLeft, Int32.toBitVec_shiftLeft]
    have s0 : ((0 : Int32).toBitVec.smod 32) = 0#32 := by decide
    have s8 : ((8 : Int32).toBitVec.smod 32) = 8#32 := by decide
    rw [s0, s8, BitVec.toNat_or]
    simp only [BitVec.shiftLeft_eq', BitVec.toNat_shiftLeft, a1, a2]
    show (c.toBitVec.toNat % 256) <<< 0 % 2 ^ 32 ||| (c.toBitVec.toNat / 256) <<< 8 % 2 ^ 32 = _
    rw [Nat.shiftLeft_zero, Nat.mod_eq_of_lt (show c.toBitVec.toNat % 256 < 2 ^ 32 by omega), Nat.mod_eq_of_lt (show (c.toBitVec.toNat / 256) <<< 8 < 2 ^ 32 by rw [Nat.shiftLeft_eq]; omega), Nat.or_comm, ← Nat.shiftLeft_add_eq_or_of_lt (by omega), Nat.shiftLeft_eq]
    omega
  show BitVec.toNat (((((lo8 c &&& 255) <<< (0 : Int32)) ||| ((hi8 c &&& 255) <<< (8 : Int32))).toBitVec.setWidth 16).setWidth 32) = _
  rw [BitVec.toNat_setWidth, BitVec.toNat_setWidth, g]
  omega
end StrChars
namespace StrChars
open Jvm Sem ClassFile Op Lib Jvm.Stand Jvm.Free.XT Jvm.Free.ALB Jvm.Free.JM Jvm.Free
open Jvm.Lib.Cold (StaticIs)
/-- the array's cell V codes the n chars f 0 .. f (n - 1) by the coder cd, as the JDK does: coder 1 just where some char is above 255 -/
def Cod (cd : Int32) (n : Nat) (f : Nat → Int32) (V : Cell) : Prop := (cd = 0 ∧ V.slots.size = n ∧ ∀ j, j < n → V.slots[j]? = some (.int (lo8 (f j))) ∧ ¬ 255 < f j) ∨ (cd = 1 ∧ V.slots.size = 2 * n ∧ (∀ j, j < n → V.slots[2 * j]? = some (.int (lo8 (f j))) ∧ V.slots[2 * j + 1]? = some (.int (hi8 (f j)))) ∧ ∃ j, j < n ∧ 255 < f j)
/-- **x is a String of the n chars f 0 .. f (n - 1)**, Latin-1 or UTF-16; its array at t has the cell V -/
def Txt (x t : Addr) (V : Cell) (cd : Int32) (n : Nat) (f : Nat → Int32) (U : State) : Prop := Exact "java/lang/String" x U ∧ Has x "java/lang/String" "value" "[B" (.ref t) U ∧ Has x "java/lang/String" "coder" "B" (.int cd) U ∧ XT.Arr .byte t V U ∧ Cod cd n f V ∧ ∀ j, j < n → ¬ f j < 0 ∧ ¬ 65535 < f j
theorem Txt.mv {x t : Addr} {V : Cell} {cd : Int32} {n : Nat} {f : Nat → Int32} {U U' : State} (h : Txt x t V cd n f U) (hal : U.vm.Alike U'.vm) (hh : U'.heap = U.heap) : Txt x t V cd n f U' := ⟨h.1.mv hal hh, h.2.1.mv hal hh, h.2.2.1.mv hal hh, h.2.2.2.1.mv hal hh, h.2.2.2.2⟩
end StrChars
namespace StrChars.Road
open Jvm Sem ClassFile Op Lib Jvm.Stand Jvm.Free Jvm.Free.XT
open Jvm.Lib.Cold (StaticIs)
theorem consq {a : Array Value} {s : State} {c : Jvm.Cond} {L : List Jvm.Cond} (h0 : c.before a s = true) (h : ∀ w ∈ L, w.before a s = true) : ∀ w ∈ c :: L, w.before a s = true := fun w hw => (List.mem_cons.mp hw).elim (fun e => e ▸ h0) (h w)
/-- the bytes of the chars cs, low before high -/
def wideBytes : List Int32 → List Value
  | [] => []
  | c :: cs => .int (lo8 c) :: .int (hi8 c) :: wideBytes cs
theorem wide_lo (d : Value) : ∀ (cs : List Int32) (j : Nat), j < cs.length → (wideBytes cs).getD (2 * j) d = .int (lo8 (cs.getD j 0))
  | [], j, h => absurd h (Nat.not_lt_zero j)
  | c :: cs, 0, _ => rfl
  | c :: cs, j + 1, h => by
    have q := wide_lo d cs j (by simpa using h)
    rw [show 2 * (j + 1) = 2 * j + 1 + 1 from by omega]
    simpa [wideBytes] using q
theorem wide_hi (d : Value) : ∀ (cs : List Int32) (j : Nat), j < cs.length → (wideBytes cs).getD (2 * j + 1) d = .int (hi8 (cs.getD j 0))
  | [], j, h => absurd h (Nat.not_lt_zero j)
  | c :: cs, 0, _ => rfl
  | c :: cs, j + 1, h => by
    have q := wide_hi d cs j (by simpa using h)
    rw [show 2 * (j + 1) + 1 = 2 * j + 1 + 1 + 1 from by omega]
    simpa [wideBytes] using q
theorem low_at (d : Value) (cs : List Int32) (j : Nat) (h : j < cs.length) : (cs.map fun c => Value.int (lo8 c)).getD j d = .int (lo8 (cs.getD j 0)) := by
  simp [List.getD_eq_getElem?_getD, h]
/-- an array of N2 bytes vs codes the chars cs by the coder cd -/
def CodA (cs : List Int32) (cd N2 : Int32) (vs : List Value) : Prop := (cd = 0 ∧ N2 = Int32.ofNat cs.length ∧ vs = (cs.map fun c => Value.int (lo8 c)) ∧ ∀ c ∈ cs, ¬ 255 < c) ∨ (cd = 1 ∧ N2 = Int32.ofNat (2 * cs.length) ∧ vs = wideBytes cs ∧ ∃ c ∈ cs, 255 < c)
theorem CodA.cod {cs : List Int32} {cd N2 : Int32} {vs : List Value} {V : Cell} (h : CodA cs cd N2 vs) (hn : 2 * cs.length < 2 ^ 31) (hs : V.slots.size = N2.toNatClampNeg) (hv : RoadKit.Has V vs (.int 0)) : Cod cd cs.length (fun j => cs.getD j 0) V := by
  rcases h with ⟨rfl, rfl, rfl, h⟩ | ⟨rfl, rfl, rfl, c, hc, hw⟩
  · rw [n32 (by omega)] at hs
    exact Or.inl ⟨rfl, hs, fun j hj => ⟨by rw [hv j (by omega), low_at _ _ _ hj], by
      have e : cs.getD j 0 = cs[j] := by simp [List.getD_eq_getElem?_getD, hj]
      show ¬ 255 < cs.getD j 0
      rw [e]; exact h _ (List.getElem_mem _)⟩⟩
  · rw [n32 (by omega)] at hs
    obtain ⟨j, hj, rfl⟩ := List.getElem_of_mem hc
    exact Or.inr ⟨rfl, hs, fun j hj => ⟨by rw [hv _ (by omega), wide_lo _ _ _ hj], by rw [hv _ (by omega), wide_hi _ _ _ hj]⟩, j, hj, by
      have e : cs.getD j 0 = cs[j] := by simp [List.getD_eq_getElem?_getD, hj]
      show 255 < cs.getD j 0
      rw [e]; exact hw⟩
/-- an object of exactly java/lang/String, its two fields found: as the laws ask it -/
theorem strObj {Z U : State} {a0 : Array Value} {kI : Nat} (wi : (Jvm.Cond.instantiable ST kI).before a0 Z = true) (al : Z.vm.Alike U.vm) {x : Addr} {v0 c0 : Value} (E : RoadKit.Exa Z U.heap x ST) (V : RoadKit.Fld Z U.heap x ST "value" "[B" v0) (C : RoadKit.Fld Z U.heap x ST "coder" "B" c0) :
    ∃ (D : Cell) (fV fC : Field), Blank ST x D U ∧ Found ST "value" "[B" fV U ∧ Found ST "coder" "B" fC U ∧ D.slots[fV.slot]? = some v0 ∧ D.slots[fC.slot]? = some c0 ∧ RoadKit.slotOf Z ST "value" "[B" = fV.slot ∧ RoadKit.slotOf Z ST "coder" "B" = fC.slot := by
  obtain ⟨D, cfV, kV, iV, fV, hD, gV, stV, knV, obV, asV, slV⟩ := V
  obtain ⟨D', cfC, kC, iC, fC, hD', gC, stC, -, -, asC, slC⟩ := C
  cases hD.symm.trans hD'
  obtain ⟨D2, kD, e1, e2, e3, e4, e5⟩ := E
  cases hD.symm.trans e1
  obtain ⟨c2, k2, i1, i2, i3, -⟩ := Cond.instantiable_spec wi
  cases e2.symm.trans i1
  cases e3.symm.trans i2
  obtain ⟨kU, u1, u2⟩ := al.2.2 _ _ e3
  exact ⟨D, fV, fC, ⟨hD, ⟨knV, fun q hq => by rw [hq] at obV; cases obV⟩, by rw [al.findClass]; exact e2, kU, u1, by rw [u2]; exact i3, by rw [u2]; exact e5 i3⟩, ⟨SBG.found_only al ⟨cfV, kV, iV, gV⟩, stV⟩, ⟨SBG.found_only al ⟨cfC, kC, iC, gC⟩, stC⟩, slV, slC, by simp [RoadKit.slotOf, gV], by simp [RoadKit.slotOf, gC]⟩
theorem sta_is {Z U : State} (al : Z.vm.Alike U.vm) {C n d : String} {v : Value} (S : RoadKit.Sta Z U.heap C n d v) : StaticIs U C n d v := by
  obtain ⟨cfS, iS, kS, fS, st, cS, t1, t2, t3, t4, t5, t6, t7⟩ := S
  exact StaticIs.there (s := { Z with heap := U.heap }) ⟨cfS, iS, kS, fS, st, cS, t1, t2, t3, t4, t5, (fun q => by rw [q] at t6; cases t6), t7⟩ al rfl
end StrChars.Road
namespace StrChars
open Jvm Sem ClassFile Op Lib Jvm.Stand Jvm.Free.XT Jvm.Free.ALB Jvm.Free.JM Jvm.Free
open Jvm.Lib.Cold (StaticIs)
/-- what place i of a byte[]'s cell holds -/
def yv (A : Cell) (i : Nat) : Int32 := match A.slots[i]? with | some (.int x) => x | _ => 0
theorem yv_get {a : Addr} {A : Cell} {U : State} (h : XT.Arr .byte a A U) (ht : Typed .byte A) {i : Nat} (hi : i < A.slots.size) : A.slots[i]? = some (.int (yv A i)) := by
  have e := Array.getElem?_eq_getElem hi
  have f := ht i _ e
  unfold yv; rw [e]
  generalize A.slots[i] = v at f
  cases v <;> simp [fits] at f ⊢
/-- the two arrays are equal, place for place -/
def EqC (A B : Cell) : Prop := A.slots.size = B.slots.size ∧ ∀ i, i < A.slots.size → yv A i = yv B i
/-- a boolean that says whether p -/
def Says01 (q : Prop) (r : Option Value) (s u : State) : Prop := ∃ v : Int32, r = some (.int v) ∧ u.heap = s.heap ∧ ((v = 1 ∧ q) ∨ (v = 0 ∧ ¬ q))
theorem Says01.mv {q : Prop} : ∀ r (U U' V V' : State), U'.heap = U.heap → V.vm.Alike V'.vm → V'.heap = V.heap → Says01 q r U V → Says01 q r U' V' :=
  fun r U U' V V' h1 _ h2 ⟨v, a, b, c⟩ => ⟨v, a, by rw [h1, h2]; exact b, c⟩
namespace LEq
def yN : MethodName := ⟨"java/lang/StringLatin1", "equals", "([B[B)Z"⟩
abbrev yB : ByteArray := jdk_43_method_13_code
theorem d0 : decode yB 0 = .ok (.aload_n 0, 1) := by decide +kernel
theorem d1 : decode yB 1 = .ok (.arraylength, 1) := by decide +kernel
theorem d2 : decode yB 2 = .ok (.aload_n 1, 1) := by decide +kernel
theorem d3 : decode yB 3 = .ok (.arraylength, 1) := by decide +kernel
theorem d4 : decode yB 4 = .ok (.if_icmp (.ne) 30, 3) := by decide +kernel
theorem d7 : decode yB 7 = .ok (.iconst 0, 1) := by decide +kernel
theorem d8 : decode yB 8 = .ok (.istore_n 2, 1) := by decide +kernel
theorem d9 : decode yB 9 = .ok (.iload_n 2, 1) := by decide +kernel
theorem d10 : decode yB 10 = .ok (.aload_n 0, 1) := by decide +kernel
theorem d11 : decode yB 11 = .ok (.arraylength, 1) := by decide +kernel
theorem d12 : decode yB 12 = .ok (.if_icmp (.ge) 20, 3) := by decide +kernel
theorem d15 : decode yB 15 = .ok (.aload_n 0, 1) := by decide +kernel
theorem d16 : decode yB 16 = .ok (.iload_n 2, 1) := by decide +kernel
theorem d17 : decode yB 17 = .ok (.baload, 1) := by decide +kernel
theorem d18 : decode yB 18 = .ok (.aload_n 1, 1) := by decide +kernel
theorem d19 : decode yB 19 = .ok (.iload_n 2, 1) := by decide +kernel
theorem d20 : decode yB 20 = .ok (.baload, 1) := by decide +kernel
theorem d21 : decode yB 21 = .ok (.if_icmp (.eq) 5, 3) := by decide +kernel
theorem d24 : decode yB 24 = .ok (.iconst 0, 1) := by decide +kernel
theorem d25 : decode yB 25 = .ok (.ireturn, 1) := by decide +kernel
theorem d26 : decode yB 26 = .ok (.iinc 2 1, 3) := by decide +kernel
theorem d29 : decode yB 29 = .ok (.goto (-20), 3) := by decide +kernel
theorem d32 : decode yB 32 = .ok (.iconst 1, 1) := by decide +kernel
theorem d33 : decode yB 33 = .ok (.ireturn, 1) := by decide +kernel
theorem d34 : decode yB 34 = .ok (.iconst 0, 1) := by decide +kernel
theorem d35 : decode yB 35 = .ok (.ireturn, 1) := by decide +kernel
def site : List Cond := []
def tab : Cond := tabOf yN yB 3 (some .boolean) site
def P (a : Addr) (A : Cell) (b : Addr) (B : Cell) (args : Array Value) (s : State) : Prop := args = #[.ref a, .ref b] ∧ XT.Arr .byte a A s ∧ Typed .byte A ∧ XT.Arr .byte b B s ∧ Typed .byte B
/-- whether two byte[] are equal, place for place -/
theorem law (l : Launch) (a : Addr) (A : Cell) (b : Addr) (B : Cell) : Law l yN 2 2 0 0 yB 3 (some .boolean) site (P a A b B) (Says01 (EqC A B)) [] 0 0 := by
  refine Law.of_walk (plainFor_of_name (by decide +kernel)) (by decide +kernel) (by decide +kernel) (by decide) (fun _ _ h => by rw [h.1]; rfl) (fun _ U U' hal hh h => ⟨h.1, h.2.1.mv hal hh, h.2.2.1, h.2.2.2.1.mv hal hh, h.2.2.2.2⟩) (fun r U U' V V' h1 hal h2 h => Says01.mv r U U' V V' h1 hal h2 h) ?_
  intro p e s m args below meth c s₁ X0 hexec hbytes hml hret hlk hnm hown hh0 W hP
  obtain ⟨rfl, hA, tA, hB, tB⟩ := hP
  have a31 := hA.2.2.2
  have b31 := hB.2.2.2
  have hA0 := hA.mv X0.warmed.alike hh0
  have hB0 := hB.mv X0.warmed.alike hh0
  have c1 : Steps p.tables e below (s₁.setTop (entryFrame m #[.ref a, .ref b] 3)) (s₁.setTop (mkF m 0 #[.val (.ref a), .val (.ref b), .unset] [])) := entry rfl
  have c2 : Steps p.tables e below (s₁.setTop (entryFrame m #[.ref a, .ref b] 3)) (s₁.setTop (mkF m 4 #[.val (.ref a), .val (.ref b), .unset] [.int (Int32.ofNat B.slots.size), .int (Int32.ofNat A.slots.size)])) := c1.trans (by
    refine XS.aloadN X0.here hexec rfl (hb hbytes d0) rfl rfl ?_
    refine X0.alen hexec hA0 rfl rfl (hb hbytes d1) ?_
    refine XS.aloadN X0.here hexec rfl (hb hbytes d2) rfl rfl ?_
    refine X0.alen hexec hB0 rfl rfl (hb hbytes d3) ?_
    exact Steps.refl _)
  by_cases hs : A.slots.size = B.slots.size
  · have c3 : Steps p.tables e below (s₁.setTop (entryFrame m #[.ref a, .ref b] 3)) (s₁.setTop (mkF m 9 #[.val (.ref a), .val (.ref b), .val (.int 0)] [])) := c2.trans (by
      refine XS.icmpNo X0.here hexec rfl (hb hbytes d4) rfl (ii_ne_f (by rw [hs])) ?_
      refine iconstV X0.here hexec rfl 0 (hb hbytes d7) (by decide) ?_
      refine XS.istoreN X0.here hexec rfl (hb hbytes d8) rfl rfl ?_
      exact Steps.refl _)
    have loop : ∀ (r i : Nat), i + r = A.slots.size → (∀ j, j < i → yv A j = yv B j) → Steps p.tables e below (s₁.setTop (entryFrame m #[.ref a, .ref b] 3)) (s₁.setTop (mkF m 9 #[.val (.ref a), .val (.ref b), .val (.int (Int32.ofNat i))] [])) → ∃ (pc : Nat) (Ls : Array Slot) (v : Int32), (pc = 25 ∨ pc = 33) ∧ ((v = 1 ∧ EqC A B) ∨ (v = 0 ∧ ¬ EqC A B)) ∧ Steps p.tables e below (s₁.setTop (entryFrame m #[.ref a, .ref b] 3)) (s₁.setTop (mkF m pc Ls [.int v])) := by
      intro r
      induction r with
      | zero =>
        intro i hi he cl
        exact ⟨33, _, 1, Or.inr rfl, Or.inl ⟨rfl, hs, fun j hj => he j (by omega)⟩, cl.trans (by
          refine XS.iloadN X0.here hexec rfl (hb hbytes d9) rfl ?_
          refine XS.aloadN X0.here hexec rfl (hb hbytes d10) rfl rfl ?_
          refine X0.alen hexec hA0 rfl rfl (hb hbytes d11) ?_
          refine XS.icmpYes X0.here hexec rfl (pc0 := 12) rfl (hb hbytes d12) rfl (ii_ge_t (nlt32 (by omega) (by omega))) (by decide) rfl ?_
          refine iconstV X0.here hexec rfl 1 (hb hbytes d32) (by decide) ?_
          exact Steps.refl _)⟩
      | succ r ih =>
        intro i hi he cl
        have c4 : Steps p.tables e below (s₁.setTop (entryFrame m #[.ref a, .ref b] 3)) (s₁.setTop (mkF m 21 #[.val (.ref a), .val (.ref b), .val (.int (Int32.ofNat i))] [.int (yv B i), .int (yv A i)])) := cl.trans (by
          refine XS.iloadN X0.here hexec rfl (hb hbytes d9) rfl ?_
          refine XS.aloadN X0.here hexec rfl (hb hbytes d10) rfl rfl ?_
          refine X0.alen hexec hA0 rfl rfl (hb hbytes d11) ?_
          refine XS.icmpNo X0.here hexec rfl (hb hbytes d12) rfl (ii_ge_f (lt32 (by omega) (by omega))) ?_
          refine XS.aloadN X0.here hexec rfl (hb hbytes d15) rfl rfl ?_
          refine XS.iloadN X0.here hexec rfl (hb hbytes d16) rfl ?_
          refine X0.aget hexec hA0 rfl (yv_get hA tA (i := i) (by omega)) rfl rfl (hb hbytes d17) ?_
          refine XS.aloadN X0.here hexec rfl (hb hbytes d18) rfl rfl ?_
          refine XS.iloadN X0.here hexec rfl (hb hbytes d19) rfl ?_
          refine X0.aget hexec hB0 rfl (yv_get hB tB (i := i) (by omega)) rfl rfl (hb hbytes d20) ?_
          exact Steps.refl _)
        by_cases hv : yv A i = yv B i
        · have c5 : Steps p.tables e below (s₁.setTop (entryFrame m #[.ref a, .ref b] 3)) (s₁.setTop (mkF m 9 #[.val (.ref a), .val (.ref b), .val (.int (Int32.ofNat i + 1))] [])) := c4.trans (by
            refine XS.icmpYes X0.here hexec rfl (pc0 := 21) rfl (hb hbytes d21) rfl (ii_eq_t hv) (by decide) rfl ?_
            refine iincV X0.here hexec rfl 1 (hb hbytes d26) (by decide) rfl rfl ?_
            refine XS.goto X0.here hexec rfl (pc0 := 29) rfl (hb hbytes d29) (by decide) rfl ?_
            exact Steps.refl _)
          rw [succ32] at c5
          exact ih (i + 1) (by omega) (fun j hj => by
            by_cases e : j = i
            · rw [e]; exact hv
            · exact he j (by omega)) c5
        · exact ⟨25, _, 0, Or.inl rfl, Or.inr ⟨rfl, fun q => hv (q.2 i (by omega))⟩, c4.trans (by
            refine XS.icmpNo X0.here hexec rfl (hb hbytes d21) rfl (ii_eq_f hv) ?_
            refine iconstV X0.here hexec rfl 0 (hb hbytes d24) (by decide) ?_
            exact Steps.refl _)⟩
    obtain ⟨pc, Ls, v, hpc, hv, cz⟩ := loop A.slots.size 0 (by omega) (fun j hj => absurd hj (Nat.not_lt_zero j)) c3
    have nv : narrow .boolean (.int v) = .int v := by rcases hv with ⟨rfl, -⟩ | ⟨rfl, -⟩ <;> rfl
    rcases hpc with rfl | rfl
    · exact ⟨s₁, some (.int v), _, _, _, X0, rfl, rfl, rfl, (fun h => by cases h), ⟨v, rfl, hh0, hv⟩, fun fs hl => cz.trans (X0.ireturnOut hexec hret nv (Or.inr (Or.inl rfl)) (hb hbytes d25) hl)⟩
    · exact ⟨s₁, some (.int v), _, _, _, X0, rfl, rfl, rfl, (fun h => by cases h), ⟨v, rfl, hh0, hv⟩, fun fs hl => cz.trans (X0.ireturnOut hexec hret nv (Or.inr (Or.inl rfl)) (hb hbytes d33) hl)⟩
  · have c3 : Steps p.tables e below (s₁.setTop (entryFrame m #[.ref a, .ref b] 3)) (s₁.setTop (mkF m 35 #[.val (.ref a), .val (.ref b), .unset] [.int 0])) := c2.trans (by
      refine XS.icmpYes X0.here hexec rfl (pc0 := 4) rfl (hb hbytes d4) rfl (ii_ne_t (ne32 a31 b31 hs)) (by decide) rfl ?_
      refine iconstV X0.here hexec rfl 0 (hb hbytes d34) (by decide) ?_
      exact Steps.refl _)
    exact ⟨s₁, some (.int 0), _, _, _, X0, rfl, rfl, rfl, (fun h => by cases h), ⟨0, rfl, hh0, Or.inr ⟨rfl, fun q => hs q.1⟩⟩, fun fs hl => c3.trans (X0.ireturnOut hexec hret rfl (Or.inr (Or.inl rfl)) (hb hbytes d35) hl)⟩
end LEq
theorem Cod.ty {cd : Int32} {n : Nat} {f : Nat → Int32} {V : Cell} (h : Cod cd n f V) : Typed .byte V := fun i v hv => by
  have hi : i < V.slots.size := (Array.getElem?_eq_some_iff.mp hv).1
  rcases h with ⟨-, k1, k2⟩ | ⟨-, k1, k2, -⟩
  · rw [(k2 i (by omega)).1] at hv; cases hv; exact fits_lo8 _
  · rcases Nat.mod_two_eq_zero_or_one i with e | e
    · obtain ⟨j, rfl⟩ : ∃ j, i = 2 * j := ⟨i / 2, by omega⟩
      rw [(k2 j (by omega)).1] at hv; cases hv; exact fits_lo8 _
    · obtain ⟨j, rfl⟩ : ∃ j, i = 2 * j + 1 := ⟨i / 2, by omega⟩
      rw [(k2 j (by omega)).2] at hv; cases hv; exact fits_lo8 _
/-- the same text -/
def SameT (n : Nat) (f : Nat → Int32) (k : Nat) (g : Nat → Int32) : Prop := n = k ∧ ∀ j, j < n → f j = g j
theorem lo8_inj {x y : Int32} (h0 : ¬ x < 0) (h1 : ¬ 255 < x) (k0 : ¬ y < 0) (k1 : ¬ 255 < y) (h : lo8 x = lo8 y) : x = y := by
  rw [← lo8_mask h0 h1, ← lo8_mask k0 k1, h]
/-- arrays coded by one coder are equal just where the texts are -/
theorem Cod.eqv {cd : Int32} {n k : Nat} {f g : Nat → Int32} {V V' : Cell} (h : Cod cd n f V) (h' : Cod cd k g V') (hf : ∀ j, j < n → ¬ f j < 0 ∧ ¬ 65535 < f j) (hg : ∀ j, j < k → ¬ g j < 0 ∧ ¬ 65535 < g j) : EqC V V' ↔ SameT n f k g := by
  have yvv : ∀ {W : Cell} {i : Nat} {x : Int32}, W.slots[i]? = some (.int x) → yv W i = x := fun q => by unfold yv; rw [q]
  rcases h with ⟨rfl, k1, k2⟩ | ⟨rfl, k1, k2, -⟩
  · rcases h' with ⟨-, m1, m2⟩ | ⟨e, -⟩
    · constructor
      · rintro ⟨e1, e2⟩
        refine ⟨by omega, fun j hj => ?_⟩
        have q := e2 j (by omega)
        rw [yvv (k2 j hj).1, yvv (m2 j (by omega)).1] at q
        exact lo8_inj (hf j hj).1 (k2 j hj).2 (hg j (by omega)).1 (m2 j (by omega)).2 q
      · rintro ⟨rfl, e2⟩
        refine ⟨by omega, fun j hj => ?_⟩
        rw [yvv (k2 j (by omega)).1, yvv (m2 j (by omega)).1, e2 j (by omega)]
    · exact absurd e (by decide)
  · rcases h' with ⟨e, -⟩ | ⟨-, m1, m2, -⟩
    · exact absurd e (by decide)
    · constructor
      · rintro ⟨e1, e2⟩
        refine ⟨by omega, fun j hj => ?_⟩
        have q1 := e2 (2 * j) (by omega)
        have q2 := e2 (2 * j + 1) (by omega)
        rw [yvv (k2 j hj).1, yvv (m2 j (by omega)).1] at q1
        rw [yvv (k2 j hj).2, yvv (m2 j (by omega)).2] at q2
        rw [← pair_says (hf j hj).1 (hf j hj).2, ← pair_says (hg j (by omega)).1 (hg j (by omega)).2, q1, q2]
      · rintro ⟨rfl, e2⟩
        refine ⟨by omega, fun i hi => ?_⟩
        rcases Nat.mod_two_eq_zero_or_one i with e | e
        · obtain ⟨j, rfl⟩ : ∃ j, i = 2 * j := ⟨i / 2, by omega⟩
          rw [yvv (k2 j (by omega)).1, yvv (m2 j (by omega)).1, e2 j (by omega)]
        · obtain ⟨j, rfl⟩ : ∃ j, i = 2 * j + 1 := ⟨i / 2, by omega⟩
          rw [yvv (k2 j (by omega)).2, yvv (m2 j (by omega)).2, e2 j (by omega)]
/-- two codings differ: so do the texts -/
theorem Cod.dif {cd cd' : Int32} {n k : Nat} {f g : Nat → Int32} {V V' : Cell} (h : Cod cd n f V) (h' : Cod cd' k g V') (hne : ¬ cd = cd') : ¬ SameT n f k g := by
  rintro ⟨rfl, e⟩
  rcases h with ⟨rfl, -, k2⟩ | ⟨rfl, -, -, j, hj, hw⟩
  · rcases h' with ⟨rfl, -⟩ | ⟨-, -, -, j, hj, hw⟩
    · exact hne rfl
    · exact (k2 j hj).2 (by rw [e j hj]; exact hw)
  · rcases h' with ⟨-, -, m2⟩ | ⟨rfl, -⟩
    · exact (m2 j hj).2 (by rw [← e j hj]; exact hw)
    · exact hne rfl
/-- an object of exactly C is an instance of C -/
theorem cinst {p : Program} {l : Launch} {e : Env} {R : Room} {s : State} {m : MethodId} {args : Array Value} {below : List Frame} {meth : Method} {c : Code} {T : State} {locs : List Loc} {cells slots : Nat} (X : Stand p l e R s m args below meth c T locs cells slots) (hexec : p.tables.exec = Jvm.exec) {own C : String} {index : Nat} (hown : s.vm.findClass own = some m.cls) (hlink : (Cond.classLink own index C).before args s = true) {a : Addr} (hE : Exact C a T)
    {g : JFrame} (hg : g.method = m) {rest : List Value} (hstack : g.stack = .ref a :: rest) (hdg : decode c.code g.pc = .ok (.instanceof index, 3)) :
    ∃ T', Stand p l e R s m args below meth c T' locs cells slots ∧ T'.heap = T.heap ∧ ∀ target, Steps p.tables e below (T'.setTop { g with pc := g.pc + 3, stack := .int 1 :: rest }) target → Steps p.tables e below (T.setTop g) target := by
  obtain ⟨cB, h1, D, h2, h3, h4⟩ := hE
  have h1' : s.vm.findClass C = some cB := by rw [← X.warmed.alike.findClass]; exact h1
  obtain ⟨vm', X', st⟩ := X.instanceofYes hexec hown hlink h2 h4 h1' (by rw [h3]; exact Jvm.Free.SB.assignable_self _ _) hg hstack hdg
  exact ⟨_, X', rfl, st⟩
theorem cself {p : Program} {l : Launch} {e : Env} {R : Room} {s : State} {m : MethodId} {args : Array Value} {below : List Frame} {meth : Method} {c : Code} {T : State} {locs : List Loc} {cells slots : Nat} (X : Stand p l e R s m args below meth c T locs cells slots) (hexec : p.tables.exec = Jvm.exec) {own C : String} {index : Nat} (hown : s.vm.findClass own = some m.cls) (hlink : (Cond.classLink own index C).before args s = true) {a : Addr} (hE : Exact C a T)
    {g : JFrame} (hg : g.method = m) {rest : List Value} (hstack : g.stack = .ref a :: rest) (hdg : decode c.code g.pc = .ok (.checkcast index, 3)) :
    ∃ T', Stand p l e R s m args below meth c T' locs cells slots ∧ T'.heap = T.heap ∧ ∀ target, Steps p.tables e below (T'.setTop { g with pc := g.pc + 3, stack := .ref a :: rest }) target → Steps p.tables e below (T.setTop g) target := by
  obtain ⟨cB, h1, D, h2, h3, h4⟩ := hE
  have h1' : s.vm.findClass C = some cB := by rw [← X.warmed.alike.findClass]; exact h1
  obtain ⟨vm', X', st⟩ := X.checkcastYes hexec hown hlink h2 h4 h1' (by rw [h3]; exact Jvm.Free.SB.assignable_self _ _) hg hstack hdg
  exact ⟨_, X', rfl, fun t h => st t (by rw [← hstack] at h; exact h)⟩
namespace SEq
def yN : MethodName := ⟨"java/lang/String", "equals", "(Ljava/lang/Object;)Z"⟩
abbrev yB : ByteArray := jdk_42_method_66_code
theorem d0 : decode yB 0 = .ok (.aload_n 0, 1) := by decide +kernel
theorem d1 : decode yB 1 = .ok (.aload_n 1, 1) := by decide +kernel
theorem d2 : decode yB 2 = .ok (.if_acmp (.ne) 5, 3) := by decide +kernel
theorem d5 : decode yB 5 = .ok (.iconst 1, 1) := by decide +kernel
theorem d6 : decode yB 6 = .ok (.ireturn, 1) := by decide +kernel
theorem d7 : decode yB 7 = .ok (.aload_n 1, 1) := by decide +kernel
theorem d8 : decode yB 8 = .ok (.instanceof 10, 3) := by decide +kernel
theorem d11 : decode yB 11 = .ok (.ifCond (.eq) 43, 3) := by decide +kernel
theorem d14 : decode yB 14 = .ok (.aload_n 1, 1) := by decide +kernel
theorem d15 : decode yB 15 = .ok (.checkcast 10, 3) := by decide +kernel
theorem d18 : decode yB 18 = .ok (.astore_n 2, 1) := by decide +kernel
theorem d19 : decode yB 19 = .ok (.getstatic 38, 3) := by decide +kernel
theorem d22 : decode yB 22 = .ok (.ifCond (.eq) 14, 3) := by decide +kernel
theorem d25 : decode yB 25 = .ok (.aload_n 0, 1) := by decide +kernel
theorem d26 : decode yB 26 = .ok (.getfield 15, 3) := by decide +kernel
theorem d29 : decode yB 29 = .ok (.aload_n 2, 1) := by decide +kernel
theorem d30 : decode yB 30 = .ok (.getfield 15, 3) := by decide +kernel
theorem d33 : decode yB 33 = .ok (.if_icmp (.ne) 21, 3) := by decide +kernel
theorem d36 : decode yB 36 = .ok (.aload_n 0, 1) := by decide +kernel
theorem d37 : decode yB 37 = .ok (.getfield 9, 3) := by decide +kernel
theorem d40 : decode yB 40 = .ok (.aload_n 2, 1) := by decide +kernel
theorem d41 : decode yB 41 = .ok (.getfield 9, 3) := by decide +kernel
theorem d44 : decode yB 44 = .ok (.invokestatic 541, 3) := by decide +kernel
theorem d47 : decode yB 47 = .ok (.ifCond (.eq) 7, 3) := by decide +kernel
theorem d50 : decode yB 50 = .ok (.iconst 1, 1) := by decide +kernel
theorem d51 : decode yB 51 = .ok (.goto 4, 3) := by decide +kernel
theorem d54 : decode yB 54 = .ok (.iconst 0, 1) := by decide +kernel
theorem d55 : decode yB 55 = .ok (.ireturn, 1) := by decide +kernel
def site : List Cond := [.classLink "java/lang/String" 10 "java/lang/String", .fieldLink "java/lang/String" 38 "java/lang/String" "COMPACT_STRINGS" "Z", .fieldLink "java/lang/String" 15 "java/lang/String" "coder" "B", .fieldLink "java/lang/String" 9 "java/lang/String" "value" "[B", LEq.tab] ++ staticW "java/lang/String" 541 LEq.yN
def tab : Cond := tabOf yN yB 3 (some .boolean) site
def P (x t : Addr) (V : Cell) (cd : Int32) (n : Nat) (f : Nat → Int32) (y t' : Addr) (V' : Cell) (cd' : Int32) (k : Nat) (g : Nat → Int32) (z : Int32) (args : Array Value) (s : State) : Prop := args = #[.ref x, .ref y] ∧ Txt x t V cd n f s ∧ Txt y t' V' cd' k g s ∧ StaticIs s "java/lang/String" "COMPACT_STRINGS" "Z" (.int z) ∧ ¬ z = 0
/-- equals(Object) of two Strings: whether the texts are the same -/
theorem law (l : Launch) (x t : Addr) (V : Cell) (cd : Int32) (n : Nat) (f : Nat → Int32) (y t' : Addr) (V' : Cell) (cd' : Int32) (k : Nat) (g : Nat → Int32) (z : Int32) : Law l yN 2 1 1 14 yB 3 (some .boolean) site (P x t V cd n f y t' V' cd' k g z) (Says01 (SameT n f k g)) [] 0 0 := by
  refine Law.of_walk (plainFor_of_name (by decide +kernel)) (by decide +kernel) (by decide +kernel) (by decide) (fun _ _ h => by rw [h.1]; rfl) (fun _ U U' hal hh h => ⟨h.1, h.2.1.mv hal hh, h.2.2.1.mv hal hh, h.2.2.2.1.there hal hh, h.2.2.2.2⟩) (fun r U U' V V' h1 hal h2 h => Says01.mv r U U' V V' h1 hal h2 h) ?_
  intro p e s m args below meth c s₁ X0 hexec hbytes hml hret hlk hnm hown hh0 W hP
  obtain ⟨rfl, hx, hy, s1, hz⟩ := hP
  have c1 : Steps p.tables e below (s₁.setTop (entryFrame m #[.ref x, .ref y] 3)) (s₁.setTop (mkF m 2 #[.val (.ref x), .val (.ref y), .unset] [.ref y, .ref x])) := Steps.trans (entry rfl) (by
    show Steps p.tables e below (s₁.setTop (mkF m 0 #[.val (.ref x), .val (.ref y), .unset] [])) _
    refine XS.aloadN X0.here hexec rfl (hb hbytes d0) rfl rfl ?_
    refine XS.aloadN X0.here hexec rfl (hb hbytes d1) rfl rfl ?_
    exact Steps.refl _)
  by_cases hxy : x = y
  · have c2 : Steps p.tables e below (s₁.setTop (entryFrame m #[.ref x, .ref y] 3)) (s₁.setTop (mkF m 6 #[.val (.ref x), .val (.ref y), .unset] [.int 1])) := c1.trans (by
      refine acmpNo X0.here hexec rfl (hb hbytes d2) rfl rfl rfl (by simp [acmp, hxy]) ?_
      refine iconstV X0.here hexec rfl 1 (hb hbytes d5) (by decide) ?_
      exact Steps.refl _)
    subst hxy
    have ec : cd = cd' := by
      obtain ⟨D, fd, a1, a2, a3⟩ := hx.2.2.1
      obtain ⟨D', fd', b1, b2, b3⟩ := hy.2.2.1
      cases a1.symm.trans b1
      obtain ⟨q1, q2, q3, q4⟩ := a2.1
      obtain ⟨r1, r2, r3, r4⟩ := b2.1
      cases q4.symm.trans r4
      cases a3.symm.trans b3; rfl
    have et : t = t' := by
      obtain ⟨D, fd, a1, a2, a3⟩ := hx.2.1
      obtain ⟨D', fd', b1, b2, b3⟩ := hy.2.1
      cases a1.symm.trans b1
      obtain ⟨q1, q2, q3, q4⟩ := a2.1
      obtain ⟨r1, r2, r3, r4⟩ := b2.1
      cases q4.symm.trans r4
      cases a3.symm.trans b3; rfl
    subst ec et
    have ev : V = V' := by cases hx.2.2.2.1.1.symm.trans hy.2.2.2.1.1; rfl
    subst ev
    have hs : SameT n f k g := (Cod.eqv hx.2.2.2.2.1 hy.2.2.2.2.1 hx.2.2.2.2.2 hy.2.2.2.2.2).mp ⟨rfl, fun _ _ => rfl⟩
    exact ⟨s₁, some (.int 1), _, _, _, X0, rfl, rfl, rfl, (fun h => by cases h), ⟨1, rfl, hh0, Or.inl ⟨rfl, hs⟩⟩, fun fs hl => c2.trans (X0.ireturnOut hexec hret rfl (Or.inr (Or.inl rfl)) (hb hbytes d6) hl)⟩
  · have c2 : Steps p.tables e below (s₁.setTop (entryFrame m #[.ref x, .ref y] 3)) (s₁.setTop (mkF m 8 #[.val (.ref x), .val (.ref y), .unset] [.ref y])) := c1.trans (by
      refine acmpYes X0.here hexec rfl (pc0 := 2) rfl (hb hbytes d2) rfl rfl rfl (by simp [acmp, hxy]) (by decide) rfl ?_
      refine XS.aloadN X0.here hexec rfl (hb hbytes d7) rfl rfl ?_
      exact Steps.refl _)
    obtain ⟨T3, X3, q3, st3⟩ := cinst X0 hexec hown (wk W (.classLink "java/lang/String" 10 "java/lang/String")) (hy.mv X0.warmed.alike hh0).1 (g := (mkF m 8 #[.val (.ref x), .val (.ref y), .unset] [.ref y])) rfl (rest := []) rfl (hb hbytes d8)
    have hh3 := q3.trans hh0
    have c4 : Steps p.tables e below (s₁.setTop (entryFrame m #[.ref x, .ref y] 3)) (T3.setTop (mkF m 15 #[.val (.ref x), .val (.ref y), .unset] [.ref y])) := (c2.trans (st3 _ (Steps.refl _))).trans (by
      refine XS.ifNo X3.here hexec rfl (hb hbytes d11) rfl (i0_eq_f (by decide)) ?_
      refine XS.aloadN X3.here hexec rfl (hb hbytes d14) rfl rfl ?_
      exact Steps.refl _)
    obtain ⟨T5, X5, q5, st5⟩ := cself X3 hexec hown (wk W (.classLink "java/lang/String" 10 "java/lang/String")) (hy.mv X3.warmed.alike hh3).1 (g := (mkF m 15 #[.val (.ref x), .val (.ref y), .unset] [.ref y])) rfl (rest := []) rfl (hb hbytes d15)
    have hh5 := q5.trans hh3
    have c6 : Steps p.tables e below (s₁.setTop (entryFrame m #[.ref x, .ref y] 3)) (T5.setTop (mkF m 19 #[.val (.ref x), .val (.ref y), .val (.ref y)] [])) := (c4.trans (st5 _ (Steps.refl _))).trans (by
      refine XS.astoreN X5.here hexec rfl (hb hbytes d18) rfl rfl rfl ?_
      exact Steps.refl _)
    obtain ⟨T7, X7, q7, st7⟩ := X5.sget hexec hown (wk W (.fieldLink "java/lang/String" 38 "java/lang/String" "COMPACT_STRINGS" "Z")) s1 (fun _ _ h => by rw [hh5]; exact h) (g := (mkF m 19 #[.val (.ref x), .val (.ref y), .val (.ref y)] [])) rfl (hb hbytes d19)
    have hh7 := q7.trans hh5
    have c8 : Steps p.tables e below (s₁.setTop (entryFrame m #[.ref x, .ref y] 3)) (T7.setTop (mkF m 26 #[.val (.ref x), .val (.ref y), .val (.ref y)] [.ref x])) := (c6.trans (st7 _ (Steps.refl _))).trans (by
      refine XS.ifNo X7.here hexec rfl (hb hbytes d22) rfl (i0_eq_f hz) ?_
      refine XS.aloadN X7.here hexec rfl (hb hbytes d25) rfl rfl ?_
      exact Steps.refl _)
    obtain ⟨T9, X9, q9, st9⟩ := X7.hget hexec hown (wk W (.fieldLink "java/lang/String" 15 "java/lang/String" "coder" "B")) (hx.mv X7.warmed.alike hh7).2.2.1 (g := (mkF m 26 #[.val (.ref x), .val (.ref y), .val (.ref y)] [.ref x])) rfl (rest := []) rfl (hb hbytes d26)
    have hh9 := q9.trans hh7
    have c10 : Steps p.tables e below (s₁.setTop (entryFrame m #[.ref x, .ref y] 3)) (T9.setTop (mkF m 30 #[.val (.ref x), .val (.ref y), .val (.ref y)] [.ref y, .int cd])) := (c8.trans (st9 _ (Steps.refl _))).trans (by
      refine XS.aloadN X9.here hexec rfl (hb hbytes d29) rfl rfl ?_
      exact Steps.refl _)
    obtain ⟨T11, X11, q11, st11⟩ := X9.hget hexec hown (wk W (.fieldLink "java/lang/String" 15 "java/lang/String" "coder" "B")) (hy.mv X9.warmed.alike hh9).2.2.1 (g := (mkF m 30 #[.val (.ref x), .val (.ref y), .val (.ref y)] [.ref y, .int cd])) rfl (rest := [.int cd]) rfl (hb hbytes d30)
    have hh11 := q11.trans hh9
    have c12 : Steps p.tables e below (s₁.setTop (entryFrame m #[.ref x, .ref y] 3)) (T11.setTop (mkF m 33 #[.val (.ref x), .val (.ref y), .val (.ref y)] [.int cd', .int cd])) := c10.trans (st11 _ (Steps.refl _))
    by_cases hcd : cd = cd'
    · subst hcd
      have c13 : Steps p.tables e below (s₁.setTop (entryFrame m #[.ref x, .ref y] 3)) (T11.setTop (mkF m 37 #[.val (.ref x), .val (.ref y), .val (.ref y)] [.ref x])) := c12.trans (by
        refine XS.icmpNo X11.here hexec rfl (hb hbytes d33) rfl (ii_ne_f rfl) ?_
        refine XS.aloadN X11.here hexec rfl (hb hbytes d36) rfl rfl ?_
        exact Steps.refl _)
      obtain ⟨T14, X14, q14, st14⟩ := X11.hget hexec hown (wk W (.fieldLink "java/lang/String" 9 "java/lang/String" "value" "[B")) (hx.mv X11.warmed.alike hh11).2.1 (g := (mkF m 37 #[.val (.ref x), .val (.ref y), .val (.ref y)] [.ref x])) rfl (rest := []) rfl (hb hbytes d37)
      have hh14 := q14.trans hh11
      have c15 : Steps p.tables e below (s₁.setTop (entryFrame m #[.ref x, .ref y] 3)) (T14.setTop (mkF m 41 #[.val (.ref x), .val (.ref y), .val (.ref y)] [.ref y, .ref t])) := (c13.trans (st14 _ (Steps.refl _))).trans (by
        refine XS.aloadN X14.here hexec rfl (hb hbytes d40) rfl rfl ?_
        exact Steps.refl _)
      obtain ⟨T16, X16, q16, st16⟩ := X14.hget hexec hown (wk W (.fieldLink "java/lang/String" 9 "java/lang/String" "value" "[B")) (hy.mv X14.warmed.alike hh14).2.1 (g := (mkF m 41 #[.val (.ref x), .val (.ref y), .val (.ref y)] [.ref y, .ref t])) rfl (rest := [.ref t]) rfl (hb hbytes d41)
      have hh16 := q16.trans hh14
      have c17 : Steps p.tables e below (s₁.setTop (entryFrame m #[.ref x, .ref y] 3)) (T16.setTop (mkF m 44 #[.val (.ref x), .val (.ref y), .val (.ref y)] [.ref t', .ref t])) := c15.trans (st16 _ (Steps.refl _))
      obtain ⟨v18, T18, X18, E18, g18⟩ := X16.callS hexec (LEq.law l t V t' V') hown (wks W (staticW "java/lang/String" 541 LEq.yN)) (wk W LEq.tab) (W := 0) (Nat.le_of_ble_eq_true rfl) (Nat.le_of_ble_eq_true rfl) (Nat.le_refl _) (Nat.le_refl _) (g := (mkF m 44 #[.val (.ref x), .val (.ref y), .val (.ref y)] [.ref t', .ref t])) rfl (by rw [hml]; rfl) c17 (argsL := [.ref t, .ref t']) (rest := []) rfl rfl (by show 2 * 0 + 0 ≤ _; decide) (hb hbytes d44) (⟨rfl, hx.2.2.2.1.mv X16.warmed.alike hh16, hx.2.2.2.2.1.ty, hy.2.2.2.1.mv X16.warmed.alike hh16, hy.2.2.2.2.1.ty⟩)
      obtain ⟨v, rfl, q18, hv⟩ := E18
      have iff := Cod.eqv hx.2.2.2.2.1 hy.2.2.2.2.1 hx.2.2.2.2.2 hy.2.2.2.2.2
      rcases hv with ⟨rfl, he⟩ | ⟨rfl, he⟩
      · have c19 : Steps p.tables e below (s₁.setTop (entryFrame m #[.ref x, .ref y] 3)) (T18.setTop (mkF m 55 #[.val (.ref x), .val (.ref y), .val (.ref y)] [.int 1])) := Steps.trans g18 (by
          refine XS.ifNo X18.here hexec rfl (hb hbytes d47) rfl (i0_eq_f (by decide)) ?_
          refine iconstV X18.here hexec rfl 1 (hb hbytes d50) (by decide) ?_
          refine XS.goto X18.here hexec rfl (pc0 := 51) rfl (hb hbytes d51) (by decide) rfl ?_
          exact Steps.refl _)
        exact ⟨T18, some (.int 1), _, _, _, X18, rfl, rfl, rfl, (fun h => by cases h), ⟨1, rfl, q18.trans hh16, Or.inl ⟨rfl, iff.mp he⟩⟩, fun fs hl => c19.trans (X18.ireturnOut hexec hret rfl (Or.inr (Or.inl rfl)) (hb hbytes d55) hl)⟩
      · have c19 : Steps p.tables e below (s₁.setTop (entryFrame m #[.ref x, .ref y] 3)) (T18.setTop (mkF m 55 #[.val (.ref x), .val (.ref y), .val (.ref y)] [.int 0])) := Steps.trans g18 (by
          refine XS.ifYes X18.here hexec rfl (pc0 := 47) rfl (hb hbytes d47) rfl (i0_eq_t rfl) (by decide) rfl ?_
          refine iconstV X18.here hexec rfl 0 (hb hbytes d54) (by decide) ?_
          exact Steps.refl _)
        exact ⟨T18, some (.int 0), _, _, _, X18, rfl, rfl, rfl, (fun h => by cases h), ⟨0, rfl, q18.trans hh16, Or.inr ⟨rfl, fun q => he (iff.mpr q)⟩⟩, fun fs hl => c19.trans (X18.ireturnOut hexec hret rfl (Or.inr (Or.inl rfl)) (hb hbytes d55) hl)⟩
    · have c13 : Steps p.tables e below (s₁.setTop (entryFrame m #[.ref x, .ref y] 3)) (T11.setTop (mkF m 55 #[.val (.ref x), .val (.ref y), .val (.ref y)] [.int 0])) := c12.trans (by
        refine XS.icmpYes X11.here hexec rfl (pc0 := 33) rfl (hb hbytes d33) rfl (ii_ne_t hcd) (by decide) rfl ?_
        refine iconstV X11.here hexec rfl 0 (hb hbytes d54) (by decide) ?_
        exact Steps.refl _)
      exact ⟨T11, some (.int 0), _, _, _, X11, rfl, rfl, rfl, (fun h => by cases h), ⟨0, rfl, hh11, Or.inr ⟨rfl, Cod.dif hx.2.2.2.2.1 hy.2.2.2.2.1 hcd⟩⟩, fun fs hl => c13.trans (X11.ireturnOut hexec hret rfl (Or.inr (Or.inl rfl)) (hb hbytes d55) hl)⟩
theorem pays {l : Launch} {R : Room} {p : Program} {e : Env} {below : List Frame} {s : State} {sargs : Array Value} {len W : Nat} (x t : Addr) (V : Cell) (cd : Int32) (n : Nat) (f : Nat → Int32) (y t' : Addr) (V' : Cell) (cd' : Int32) (k : Nat) (g : Nat → Int32) (z : Int32) (htab : tab.before sargs s = true) (hfr : 2 ≤ R.frames) (hlo : W + 28 ≤ R.locals) :
    Back l R p e below s sargs yN len W (fun A₁ a₁ => A₁.cells + 0 ≤ R.cells ∧ A₁.slots + 0 ≤ R.slots ∧ P x t V cd n f y t' V' cd' k g z a₁ A₁.U) (fun A₁ _ v₁ B₁ => Says01 (SameT n f k g) v₁ A₁.U B₁.U ∧ B₁.locs = A₁.locs ++ [] ∧ B₁.cells = A₁.cells + 0 ∧ B₁.slots = A₁.slots + 0) :=
  (law l x t V cd n f y t' V' cd' k g z).pays htab hfr (by omega)
end SEq
end StrChars
namespace StrChars.Road
open Jvm Sem ClassFile Op Lib Jvm.Stand Jvm.Free Jvm.Free.XT
open Jvm.Lib.Cold (StaticIs)
/-- the words of String.equals(Object) -/
abbrev wordsEq : List Jvm.Cond := [.code SEq.yN SEq.yB 3 (some .boolean), .initialized ST, .classLink ST 10 ST, .fieldLink ST 38 ST "COMPACT_STRINGS" "Z", .fieldLink ST 15 ST "coder" "B", .fieldLink ST 9 ST "value" "[B", .methodLink ST 541 LEq.yN, .static LEq.yN, .code LEq.yN LEq.yB 3 (some .boolean), .initialized "java/lang/StringLatin1"]
theorem tabEq_of {a : Array Value} {s : State} (h : ∀ w ∈ wordsEq, w.before a s = true) : SEq.tab.before a s = true := by
  have hl : LEq.tab.before a s = true := unparts (wk h (.code LEq.yN LEq.yB 3 (some .boolean))) (wks h (.initialized LEq.yN.cls :: LEq.site))
  have q := consq hl h
  exact unparts (wk q (.code SEq.yN SEq.yB 3 (some .boolean))) (wks q (.initialized SEq.yN.cls :: SEq.site))
theorem movedEq {Z s : State} {a0 args : Array Value} (hZ : Z.Warmed39 s.vm) (hw : ∀ d ∈ wordsEq, d.before a0 Z = true) : ∀ d ∈ wordsEq, d.before args s = true := fun d hd => by
  have t : ∀ d ∈ wordsEq, (d.onTables && d.keepsFace) = true := by decide +kernel
  exact RoadKit.mv hZ (hw d hd) (t d hd)
/-- the road's facts of a String, as the laws ask it -/
theorem txt_of {Z U : State} {a0 : Array Value} {kI : Nat} (wi : (Jvm.Cond.instantiable ST kI).before a0 Z = true) (al : Z.vm.Alike U.vm) {x t : Addr} {kb : ClassId} {cs : List Int32} {cd N2 : Int32} {vs : List Value} (E : RoadKit.Exa Z U.heap x ST) (V : RoadKit.Fld Z U.heap x ST "value" "[B" (.ref t)) (C : RoadKit.Fld Z U.heap x ST "coder" "B" (.int cd)) (K : RoadKit.Arv Z U.heap t kb .byte N2 vs (.int 0)) (hc : CodA cs cd N2 vs) (hb : ∀ c ∈ cs, ¬ c < 0 ∧ ¬ (65535 : Int32) < c) (l2 : cs.length ≤ 4000) :
    ∃ A, Txt x t A cd cs.length (fun j => cs.getD j 0) U := by
  obtain ⟨A, K1, K2, K3, K4, K5, K6⟩ := K
  have hcod := hc.cod (by omega) K3 K5
  obtain ⟨D, fV, fC, hB, F1, F2, g1, g2, -, -⟩ := strObj wi al E V C
  exact ⟨A, ⟨_, hB.2.2.1, D, hB.1, rfl, by cases q : D.vm <;> first | rfl | exact absurd q (hB.2.1.2 _)⟩, Has.of hB F1 g1, Has.of hB F2 g2, ⟨K1.1, State.isArrayOf_alike al K1.2.1, K1.2.2, by rcases hcod with ⟨-, q, -⟩ | ⟨-, q, -⟩ <;> omega⟩, hcod, fun j hj => by
    have e : cs.getD j 0 = cs[j] := by simp [List.getD_eq_getElem?_getD, hj]
    show ¬ cs.getD j 0 < 0 ∧ ¬ 65535 < cs.getD j 0
    rw [e]; exact hb _ (List.getElem_mem _)⟩
theorem same_list (cs ds : List Int32) : SameT cs.length (fun j => cs.getD j 0) ds.length (fun j => ds.getD j 0) ↔ cs = ds := by
  constructor
  · rintro ⟨e, q⟩
    refine List.ext_getElem e fun j h1 h2 => ?_
    have := q j h1
    simpa [List.getD_eq_getElem?_getD, h1, h2] using this
  · rintro rfl
    exact ⟨rfl, fun _ _ => rfl⟩
/-- **equals(Object) OF TWO SUCH STRINGS**: 1 just where the chars are the same -/
theorem eqW {p : Program} {l : Launch} {e : Env} {R : Room} {s : State} {args : Array Value} {below : List Frame} {len W : Nat} {Z : State} {a0 : Array Value} {h : Heap} (hZ : Z.Warmed39 s.vm) (hw : ∀ d ∈ wordsEq, d.before a0 Z = true) {kI : Nat} (wi : (Jvm.Cond.instantiable ST kI).before a0 Z = true)
    {x t : Addr} {kb : ClassId} {cs : List Int32} {cd N2 : Int32} {vs : List Value} (E : RoadKit.Exa Z h x ST) (V : RoadKit.Fld Z h x ST "value" "[B" (.ref t)) (C : RoadKit.Fld Z h x ST "coder" "B" (.int cd)) (K : RoadKit.Arv Z h t kb .byte N2 vs (.int 0)) (hc : CodA cs cd N2 vs) (hb : ∀ c ∈ cs, ¬ c < 0 ∧ ¬ (65535 : Int32) < c) (l2 : cs.length ≤ 4000)
    {y t' : Addr} {kb' : ClassId} {ds : List Int32} {cd' N2' : Int32} {vs' : List Value} (E' : RoadKit.Exa Z h y ST) (V' : RoadKit.Fld Z h y ST "value" "[B" (.ref t')) (C' : RoadKit.Fld Z h y ST "coder" "B" (.int cd')) (K' : RoadKit.Arv Z h t' kb' .byte N2' vs' (.int 0)) (hc' : CodA ds cd' N2' vs') (hb' : ∀ c ∈ ds, ¬ c < 0 ∧ ¬ (65535 : Int32) < c) (l2' : ds.length ≤ 4000)
    {z : Int32} (S : RoadKit.Sta Z h ST "COMPACT_STRINGS" "Z" (.int z)) (hz : ¬ z = 0) (hfr : 2 ≤ R.frames) (hlo : W + 28 ≤ R.locals) :
    Back l R p e below s args (⟨"java/lang/String", "equals", "(Ljava/lang/Object;)Z"⟩ : MethodName) len W (fun P a => a = #[.ref x, .ref y] ∧ P.U.heap = h ∧ P.cells + 0 ≤ R.cells ∧ P.slots + 0 ≤ R.slots)
      (fun P _ v B => ∃ L, (((v = some (.int 1) ∧ cs = ds) ∨ (v = some (.int 0) ∧ ¬ cs = ds)) ∧ L = [] ∧ B.U.heap = h) ∧ B.locs = P.locs ++ L ∧ B.cells = P.cells + 0 ∧ B.slots = P.slots + 0) := by
  intro m meth c P g ig mk a X hg hsize hdg hW hn hp'
  obtain ⟨rfl, rfl, r1, r2⟩ := hp'
  have al : Z.vm.Alike P.U.vm := hZ.alike.trans X.warmed.alike
  obtain ⟨A, hx⟩ := txt_of wi al E V C K hc hb l2
  obtain ⟨A', hy⟩ := txt_of wi al E' V' C' K' hc' hb' l2'
  obtain ⟨v, B, X', ⟨⟨w, hv, hh, hq⟩, hl, hk, hs⟩, st⟩ := SEq.pays x t A cd cs.length (fun j => cs.getD j 0) y t' A' cd' ds.length (fun j => ds.getD j 0) z (tabEq_of (movedEq hZ hw)) hfr hlo m meth c P g ig mk _ X hg hsize hdg hW hn ⟨r1, r2, rfl, hx, hy, sta_is al S, hz⟩
  refine ⟨v, B, X', ⟨[], ⟨?_, rfl, hh⟩, hl, hk, hs⟩, st⟩
  rcases hq with ⟨rfl, q⟩ | ⟨rfl, q⟩
  · exact Or.inl ⟨hv, (same_list cs ds).mp q⟩
  · exact Or.inr ⟨hv, fun e => q ((same_list cs ds).mpr e)⟩
end StrChars.Road
namespace StrChars.Road
open Jvm Sem ClassFile Op Lib Jvm.Stand Jvm.Free Jvm.Free.XT
open Jvm.Lib.Cold (StaticIs)
/-- what backV says of its String, as the contracts of this text ask it: cs's low bytes, coder 0 -/
theorem codOf {cs : List Int32} {n : Nat} (hn : cs.length = n) (hb : ∀ c ∈ cs, ¬ 255 < c) : CodA cs 0 (Int32.ofNat n) ((cs.map lo8).map Value.int) := Or.inl ⟨rfl, by rw [hn], by simp [List.map_map, Function.comp_def], hb⟩
end StrChars.Road
end Jvm.Pilot.@@N@@
namespace Jvm.RoadKit
open Sem ClassFile Op Lib Jvm.Stand Jvm.Free Jvm.LawKit
section New
variable {p : Program} {l : Launch} {e : Env} {R : Room} {s : State} {m : MethodId} {args : Array Value} {below : List Frame} {meth : Method} {c : Code} {T : State} {locs : List Loc} {cells slots : Nat}
theorem retI (X : Stand p l e R s m args below meth c T locs cells slots) (hx : p.tables.exec = Jvm.exec) {pc : Nat} {Ls : Array Slot} {z : Int32} {rest : List Value} (hret : meth.sig.returnType = some .int) (hd : decode c.code pc = .ok (.ireturn, 1)) {fs : List Frame}
    (hl : ∀ (f : JFrame) (acts : List Action), f.method = m → f.locked = none → f.entered = [] → (doReturn e (T.setTop f) acts (some (.int z))).1 = T.setFrames fs) : Steps p.tables e below (T.setTop (mkF m pc Ls (.int z :: rest))) (T.setFrames fs) :=
  retOut X hx hret rfl (Or.inl ⟨rfl, Or.inl rfl, _, rfl⟩) hd hl
theorem retJ (X : Stand p l e R s m args below meth c T locs cells slots) (hx : p.tables.exec = Jvm.exec) {pc : Nat} {Ls : Array Slot} {z : Int64} {rest : List Value} (hret : meth.sig.returnType = some .long) (hd : decode c.code pc = .ok (.lreturn, 1)) {fs : List Frame}
    (hl : ∀ (f : JFrame) (acts : List Action), f.method = m → f.locked = none → f.entered = [] → (doReturn e (T.setTop f) acts (some (.long z))).1 = T.setFrames fs) : Steps p.tables e below (T.setTop (mkF m pc Ls (.long z :: rest))) (T.setFrames fs) :=
  retOut X hx hret rfl (Or.inr (Or.inl ⟨rfl, rfl, _, rfl⟩)) hd hl
theorem retR (X : Stand p l e R s m args below meth c T locs cells slots) (hx : p.tables.exec = Jvm.exec) {pc : Nat} {Ls : Array Slot} {w : Value} {t : FieldType} {rest : List Value} (hret : meth.sig.returnType = some t) (ht : t.isReference = true) (hv : w.isRef = true) (hd : decode c.code pc = .ok (.areturn, 1)) {fs : List Frame}
    (hl : ∀ (f : JFrame) (acts : List Action), f.method = m → f.locked = none → f.entered = [] → (doReturn e (T.setTop f) acts (some w)).1 = T.setFrames fs) : Steps p.tables e below (T.setTop (mkF m pc Ls (w :: rest))) (T.setFrames fs) :=
  retOut X hx hret (by cases t <;> simp_all [narrow, FieldType.isReference]) (Or.inr (Or.inr (Or.inr (Or.inr ⟨rfl, ht, hv⟩)))) hd hl
end New
end Jvm.RoadKit
namespace Jvm.Pilot.@@N@@
open Jvm Jvm.ClassFile Sem Op Lib Jvm.Free Jvm.Stand Jvm.LawKit Jvm.RoadKit Bundle Jvm.Pilot.@@N@@.Jvm.D
def Done (p : Program) (e : Env) (below : List Frame) (P : State → Outcome → Prop) (A : State) : Prop := ∃ s₂ o, Steps p.tables e below A s₂ ∧ s₂.status = .running ∧ Ended s₂ below o ∧ P s₂ o
theorem Done.st {p : Program} {e : Env} {below : List Frame} {P : State → Outcome → Prop} {A B : State} (k : ∀ t, Steps p.tables e below B t → Steps p.tables e below A t) (h : Done p e below P B) : Done p e below P A := by
  obtain ⟨s₂, o, h1, h2⟩ := h; exact ⟨s₂, o, k _ h1, h2⟩
theorem Done.fin {p : Program} {e : Env} {below : List Frame} {P : State → Outcome → Prop} {A U : State} {o : Outcome} (k : Steps p.tables e below A U) (h1 : U.status = .running) (h2 : Ended U below o) (h3 : P U o) : Done p e below P A := ⟨U, o, k, h1, h2, h3⟩
theorem d1_0 : decode method_4_code 0 = .ok (.lload_n 0, 1) := by decide +kernel
theorem d1_1 : decode method_4_code 1 = .ok (.bipush 32, 2) := by decide +kernel
theorem d1_3 : decode method_4_code 3 = .ok (.lushr, 1) := by decide +kernel
theorem d1_4 : decode method_4_code 4 = .ok (.l2i, 1) := by decide +kernel
theorem d1_5 : decode method_4_code 5 = .ok (.ireturn, 1) := by decide +kernel
theorem d2_0 : decode method_5_code 0 = .ok (.lload_n 0, 1) := by decide +kernel
theorem d2_1 : decode method_5_code 1 = .ok (.l2i, 1) := by decide +kernel
theorem d2_2 : decode method_5_code 2 = .ok (.ireturn, 1) := by decide +kernel
theorem d3_0 : decode method_2_code 0 = .ok (.iload_n 0, 1) := by decide +kernel
theorem d3_1 : decode method_2_code 1 = .ok (.iconst 3, 1) := by decide +kernel
theorem d3_2 : decode method_2_code 2 = .ok (.iand, 1) := by decide +kernel
theorem d3_3 : decode method_2_code 3 = .ok (.istore_n 1, 1) := by decide +kernel
theorem d3_4 : decode method_2_code 4 = .ok (.iload_n 0, 1) := by decide +kernel
theorem d3_5 : decode method_2_code 5 = .ok (.iconst 2, 1) := by decide +kernel
theorem d3_6 : decode method_2_code 6 = .ok (.iushr, 1) := by decide +kernel
theorem d3_7 : decode method_2_code 7 = .ok (.sipush 255, 3) := by decide +kernel
theorem d3_10 : decode method_2_code 10 = .ok (.iand, 1) := by decide +kernel
theorem d3_11 : decode method_2_code 11 = .ok (.i2c, 1) := by decide +kernel
theorem d3_12 : decode method_2_code 12 = .ok (.istore_n 2, 1) := by decide +kernel
theorem d3_13 : decode method_2_code 13 = .ok (.iload_n 0, 1) := by decide +kernel
theorem d3_14 : decode method_2_code 14 = .ok (.bipush 10, 2) := by decide +kernel
theorem d3_16 : decode method_2_code 16 = .ok (.iushr, 1) := by decide +kernel
theorem d3_17 : decode method_2_code 17 = .ok (.sipush 255, 3) := by decide +kernel
theorem d3_20 : decode method_2_code 20 = .ok (.iand, 1) := by decide +kernel
theorem d3_21 : decode method_2_code 21 = .ok (.i2c, 1) := by decide +kernel
theorem d3_22 : decode method_2_code 22 = .ok (.istore_n 3, 1) := by decide +kernel
theorem d3_23 : decode method_2_code 23 = .ok (.iload_n 0, 1) := by decide +kernel
theorem d3_24 : decode method_2_code 24 = .ok (.bipush 18, 2) := by decide +kernel
theorem d3_26 : decode method_2_code 26 = .ok (.iushr, 1) := by decide +kernel
theorem d3_27 : decode method_2_code 27 = .ok (.sipush 255, 3) := by decide +kernel
theorem d3_30 : decode method_2_code 30 = .ok (.iand, 1) := by decide +kernel
theorem d3_31 : decode method_2_code 31 = .ok (.i2c, 1) := by decide +kernel
theorem d3_32 : decode method_2_code 32 = .ok (.istore 4, 2) := by decide +kernel
theorem d3_34 : decode method_2_code 34 = .ok (.iload_n 1, 1) := by decide +kernel
theorem d3_35 : decode method_2_code 35 = .ok (.ifCond .ne 14, 3) := by decide +kernel
theorem d3_38 : decode method_2_code 38 = .ok (.new 7, 3) := by decide +kernel
theorem d3_41 : decode method_2_code 41 = .ok (.dup, 1) := by decide +kernel
theorem d3_42 : decode method_2_code 42 = .ok (.iconst 0, 1) := by decide +kernel
theorem d3_43 : decode method_2_code 43 = .ok (.newarray .char, 2) := by decide +kernel
theorem d3_45 : decode method_2_code 45 = .ok (.invokespecial 9, 3) := by decide +kernel
theorem d3_48 : decode method_2_code 48 = .ok (.areturn, 1) := by decide +kernel
theorem d3_49 : decode method_2_code 49 = .ok (.iload_n 1, 1) := by decide +kernel
theorem d3_50 : decode method_2_code 50 = .ok (.iconst 1, 1) := by decide +kernel
theorem d3_51 : decode method_2_code 51 = .ok (.if_icmp .ne 8, 3) := by decide +kernel
theorem d3_54 : decode method_2_code 54 = .ok (.iload_n 2, 1) := by decide +kernel
theorem d3_55 : decode method_2_code 55 = .ok (.invokestatic 12, 3) := by decide +kernel
theorem d3_58 : decode method_2_code 58 = .ok (.areturn, 1) := by decide +kernel
theorem d3_59 : decode method_2_code 59 = .ok (.iload_n 1, 1) := by decide +kernel
theorem d3_60 : decode method_2_code 60 = .ok (.iconst 2, 1) := by decide +kernel
theorem d3_61 : decode method_2_code 61 = .ok (.if_icmp .ne 22, 3) := by decide +kernel
theorem d3_64 : decode method_2_code 64 = .ok (.new 7, 3) := by decide +kernel
theorem d3_67 : decode method_2_code 67 = .ok (.dup, 1) := by decide +kernel
theorem d3_68 : decode method_2_code 68 = .ok (.iconst 2, 1) := by decide +kernel
theorem d3_69 : decode method_2_code 69 = .ok (.newarray .char, 2) := by decide +kernel
theorem d3_71 : decode method_2_code 71 = .ok (.dup, 1) := by decide +kernel
theorem d3_72 : decode method_2_code 72 = .ok (.iconst 0, 1) := by decide +kernel
theorem d3_73 : decode method_2_code 73 = .ok (.iload_n 2, 1) := by decide +kernel
theorem d3_74 : decode method_2_code 74 = .ok (.castore, 1) := by decide +kernel
theorem d3_75 : decode method_2_code 75 = .ok (.dup, 1) := by decide +kernel
theorem d3_76 : decode method_2_code 76 = .ok (.iconst 1, 1) := by decide +kernel
theorem d3_77 : decode method_2_code 77 = .ok (.iload_n 3, 1) := by decide +kernel
theorem d3_78 : decode method_2_code 78 = .ok (.castore, 1) := by decide +kernel
theorem d3_79 : decode method_2_code 79 = .ok (.invokespecial 9, 3) := by decide +kernel
theorem d3_82 : decode method_2_code 82 = .ok (.areturn, 1) := by decide +kernel
theorem d3_83 : decode method_2_code 83 = .ok (.new 7, 3) := by decide +kernel
theorem d3_86 : decode method_2_code 86 = .ok (.dup, 1) := by decide +kernel
theorem d3_87 : decode method_2_code 87 = .ok (.iconst 3, 1) := by decide +kernel
theorem d3_88 : decode method_2_code 88 = .ok (.newarray .char, 2) := by decide +kernel
theorem d3_90 : decode method_2_code 90 = .ok (.dup, 1) := by decide +kernel
theorem d3_91 : decode method_2_code 91 = .ok (.iconst 0, 1) := by decide +kernel
theorem d3_92 : decode method_2_code 92 = .ok (.iload_n 2, 1) := by decide +kernel
theorem d3_93 : decode method_2_code 93 = .ok (.castore, 1) := by decide +kernel
theorem d3_94 : decode method_2_code 94 = .ok (.dup, 1) := by decide +kernel
theorem d3_95 : decode method_2_code 95 = .ok (.iconst 1, 1) := by decide +kernel
theorem d3_96 : decode method_2_code 96 = .ok (.iload_n 3, 1) := by decide +kernel
theorem d3_97 : decode method_2_code 97 = .ok (.castore, 1) := by decide +kernel
theorem d3_98 : decode method_2_code 98 = .ok (.dup, 1) := by decide +kernel
theorem d3_99 : decode method_2_code 99 = .ok (.iconst 2, 1) := by decide +kernel
theorem d3_100 : decode method_2_code 100 = .ok (.iload 4, 2) := by decide +kernel
theorem d3_102 : decode method_2_code 102 = .ok (.castore, 1) := by decide +kernel
theorem d3_103 : decode method_2_code 103 = .ok (.invokespecial 9, 3) := by decide +kernel
theorem d3_106 : decode method_2_code 106 = .ok (.areturn, 1) := by decide +kernel
theorem d4_0 : decode jdk_42_method_3_code 0 = .ok (.aload_n 0, 1) := by decide +kernel
theorem d4_1 : decode jdk_42_method_3_code 1 = .ok (.aload_n 1, 1) := by decide +kernel
theorem d4_2 : decode jdk_42_method_3_code 2 = .ok (.iconst 0, 1) := by decide +kernel
theorem d4_3 : decode jdk_42_method_3_code 3 = .ok (.aload_n 1, 1) := by decide +kernel
theorem d4_4 : decode jdk_42_method_3_code 4 = .ok (.arraylength, 1) := by decide +kernel
theorem d4_5 : decode jdk_42_method_3_code 5 = .ok (.aconst_null, 1) := by decide +kernel
theorem d4_6 : decode jdk_42_method_3_code 6 = .ok (.invokespecial 27, 3) := by decide +kernel
theorem d4_9 : decode jdk_42_method_3_code 9 = .ok (.return_, 1) := by decide +kernel
theorem d5_0 : decode jdk_42_method_149_code 0 = .ok (.aload_n 0, 1) := by decide +kernel
theorem d5_1 : decode jdk_42_method_149_code 1 = .ok (.invokespecial 1, 3) := by decide +kernel
theorem d5_4 : decode jdk_42_method_149_code 4 = .ok (.iload_n 3, 1) := by decide +kernel
theorem d5_5 : decode jdk_42_method_149_code 5 = .ok (.ifCond .ne 22, 3) := by decide +kernel
theorem d5_8 : decode jdk_42_method_149_code 8 = .ok (.aload_n 0, 1) := by decide +kernel
theorem d5_9 : decode jdk_42_method_149_code 9 = .ok (.ldc 7, 2) := by decide +kernel
theorem d5_11 : decode jdk_42_method_149_code 11 = .ok (.getfield 9, 3) := by decide +kernel
theorem d5_14 : decode jdk_42_method_149_code 14 = .ok (.putfield 9, 3) := by decide +kernel
theorem d5_17 : decode jdk_42_method_149_code 17 = .ok (.aload_n 0, 1) := by decide +kernel
theorem d5_18 : decode jdk_42_method_149_code 18 = .ok (.ldc 7, 2) := by decide +kernel
theorem d5_20 : decode jdk_42_method_149_code 20 = .ok (.getfield 15, 3) := by decide +kernel
theorem d5_23 : decode jdk_42_method_149_code 23 = .ok (.putfield 15, 3) := by decide +kernel
theorem d5_26 : decode jdk_42_method_149_code 26 = .ok (.return_, 1) := by decide +kernel
theorem d10_0 : decode jdk_42_method_139_code 0 = .ok (.getstatic 38, 3) := by decide +kernel
theorem d10_3 : decode jdk_42_method_139_code 3 = .ok (.ifCond .eq 23, 3) := by decide +kernel
theorem d10_6 : decode jdk_42_method_139_code 6 = .ok (.iload_n 0, 1) := by decide +kernel
theorem d10_7 : decode jdk_42_method_139_code 7 = .ok (.invokestatic 1015, 3) := by decide +kernel
theorem d10_10 : decode jdk_42_method_139_code 10 = .ok (.ifCond .eq 16, 3) := by decide +kernel
theorem d10_13 : decode jdk_42_method_139_code 13 = .ok (.new 10, 3) := by decide +kernel
theorem d10_16 : decode jdk_42_method_139_code 16 = .ok (.dup, 1) := by decide +kernel
theorem d10_17 : decode jdk_42_method_139_code 17 = .ok (.iload_n 0, 1) := by decide +kernel
theorem d10_18 : decode jdk_42_method_139_code 18 = .ok (.invokestatic 1018, 3) := by decide +kernel
theorem d10_21 : decode jdk_42_method_139_code 21 = .ok (.iconst 0, 1) := by decide +kernel
theorem d10_22 : decode jdk_42_method_139_code 22 = .ok (.invokespecial 209, 3) := by decide +kernel
theorem d10_25 : decode jdk_42_method_139_code 25 = .ok (.areturn, 1) := by decide +kernel
theorem d11_0 : decode jdk_43_method_3_code 0 = .ok (.iload_n 0, 1) := by decide +kernel
theorem d11_1 : decode jdk_43_method_3_code 1 = .ok (.sipush 255, 3) := by decide +kernel
theorem d11_4 : decode jdk_43_method_3_code 4 = .ok (.if_icmp .gt 7, 3) := by decide +kernel
theorem d11_7 : decode jdk_43_method_3_code 7 = .ok (.iconst 1, 1) := by decide +kernel
theorem d11_8 : decode jdk_43_method_3_code 8 = .ok (.goto 4, 3) := by decide +kernel
theorem d11_12 : decode jdk_43_method_3_code 12 = .ok (.ireturn, 1) := by decide +kernel
theorem d12_0 : decode jdk_43_method_46_code 0 = .ok (.iconst 1, 1) := by decide +kernel
theorem d12_1 : decode jdk_43_method_46_code 1 = .ok (.newarray .byte, 2) := by decide +kernel
theorem d12_3 : decode jdk_43_method_46_code 3 = .ok (.dup, 1) := by decide +kernel
theorem d12_4 : decode jdk_43_method_46_code 4 = .ok (.iconst 0, 1) := by decide +kernel
theorem d12_5 : decode jdk_43_method_46_code 5 = .ok (.iload_n 0, 1) := by decide +kernel
theorem d12_6 : decode jdk_43_method_46_code 6 = .ok (.i2b, 1) := by decide +kernel
theorem d12_7 : decode jdk_43_method_46_code 7 = .ok (.bastore, 1) := by decide +kernel
theorem d12_8 : decode jdk_43_method_46_code 8 = .ok (.areturn, 1) := by decide +kernel
theorem d13_0 : decode jdk_42_method_151_code 0 = .ok (.aload_n 0, 1) := by decide +kernel
theorem d13_1 : decode jdk_42_method_151_code 1 = .ok (.invokespecial 1, 3) := by decide +kernel
theorem d13_4 : decode jdk_42_method_151_code 4 = .ok (.aload_n 0, 1) := by decide +kernel
theorem d13_5 : decode jdk_42_method_151_code 5 = .ok (.aload_n 1, 1) := by decide +kernel
theorem d13_6 : decode jdk_42_method_151_code 6 = .ok (.putfield 9, 3) := by decide +kernel
theorem d13_9 : decode jdk_42_method_151_code 9 = .ok (.aload_n 0, 1) := by decide +kernel
theorem d13_10 : decode jdk_42_method_151_code 10 = .ok (.iload_n 2, 1) := by decide +kernel
theorem d13_11 : decode jdk_42_method_151_code 11 = .ok (.putfield 15, 3) := by decide +kernel
theorem d13_14 : decode jdk_42_method_151_code 14 = .ok (.return_, 1) := by decide +kernel
theorem d14_0 : decode prog_17_method_1_code 0 = .ok (.aload_n 0, 1) := by decide +kernel
theorem d14_1 : decode prog_17_method_1_code 1 = .ok (.invokespecial 1, 3) := by decide +kernel
theorem d14_4 : decode prog_17_method_1_code 4 = .ok (.aload_n 0, 1) := by decide +kernel
theorem d14_5 : decode prog_17_method_1_code 5 = .ok (.aload_n 1, 1) := by decide +kernel
theorem d14_6 : decode prog_17_method_1_code 6 = .ok (.invokestatic 7, 3) := by decide +kernel
theorem d14_9 : decode prog_17_method_1_code 9 = .ok (.checkcast 13, 3) := by decide +kernel
theorem d14_12 : decode prog_17_method_1_code 12 = .ok (.putfield 15, 3) := by decide +kernel
theorem d14_15 : decode prog_17_method_1_code 15 = .ok (.aload_n 0, 1) := by decide +kernel
theorem d14_16 : decode prog_17_method_1_code 16 = .ok (.aload_n 2, 1) := by decide +kernel
theorem d14_17 : decode prog_17_method_1_code 17 = .ok (.invokestatic 7, 3) := by decide +kernel
theorem d14_20 : decode prog_17_method_1_code 20 = .ok (.checkcast 13, 3) := by decide +kernel
theorem d14_23 : decode prog_17_method_1_code 23 = .ok (.putfield 21, 3) := by decide +kernel
theorem d14_26 : decode prog_17_method_1_code 26 = .ok (.aload_n 0, 1) := by decide +kernel
theorem d14_27 : decode prog_17_method_1_code 27 = .ok (.aload_n 3, 1) := by decide +kernel
theorem d14_28 : decode prog_17_method_1_code 28 = .ok (.invokestatic 7, 3) := by decide +kernel
theorem d14_31 : decode prog_17_method_1_code 31 = .ok (.checkcast 13, 3) := by decide +kernel
theorem d14_34 : decode prog_17_method_1_code 34 = .ok (.putfield 24, 3) := by decide +kernel
theorem d14_37 : decode prog_17_method_1_code 37 = .ok (.aload_n 0, 1) := by decide +kernel
theorem d14_38 : decode prog_17_method_1_code 38 = .ok (.aload 4, 2) := by decide +kernel
theorem d14_40 : decode prog_17_method_1_code 40 = .ok (.invokestatic 7, 3) := by decide +kernel
theorem d14_43 : decode prog_17_method_1_code 43 = .ok (.checkcast 13, 3) := by decide +kernel
theorem d14_46 : decode prog_17_method_1_code 46 = .ok (.putfield 27, 3) := by decide +kernel
theorem d14_49 : decode prog_17_method_1_code 49 = .ok (.return_, 1) := by decide +kernel
theorem d15_0 : decode jdk_31_method_10_code 0 = .ok (.aload_n 0, 1) := by decide +kernel
theorem d15_1 : decode jdk_31_method_10_code 1 = .ok (.ifnonnull 11, 3) := by decide +kernel
theorem d15_12 : decode jdk_31_method_10_code 12 = .ok (.aload_n 0, 1) := by decide +kernel
theorem d15_13 : decode jdk_31_method_10_code 13 = .ok (.areturn, 1) := by decide +kernel
theorem d16_0 : decode prog_17_method_6_code 0 = .ok (.aload_n 1, 1) := by decide +kernel
theorem d16_1 : decode prog_17_method_6_code 1 = .ok (.instanceof 16, 3) := by decide +kernel
theorem d16_4 : decode prog_17_method_6_code 4 = .ok (.ifCond .eq 11, 3) := by decide +kernel
theorem d16_7 : decode prog_17_method_6_code 7 = .ok (.aload_n 1, 1) := by decide +kernel
theorem d16_8 : decode prog_17_method_6_code 8 = .ok (.checkcast 16, 3) := by decide +kernel
theorem d16_11 : decode prog_17_method_6_code 11 = .ok (.astore_n 2, 1) := by decide +kernel
theorem d16_12 : decode prog_17_method_6_code 12 = .ok (.goto 5, 3) := by decide +kernel
theorem d16_15 : decode prog_17_method_6_code 15 = .ok (.iconst 0, 1) := by decide +kernel
theorem d16_16 : decode prog_17_method_6_code 16 = .ok (.ireturn, 1) := by decide +kernel
theorem d16_17 : decode prog_17_method_6_code 17 = .ok (.aload_n 0, 1) := by decide +kernel
theorem d16_18 : decode prog_17_method_6_code 18 = .ok (.getfield 15, 3) := by decide +kernel
theorem d16_21 : decode prog_17_method_6_code 21 = .ok (.aload_n 2, 1) := by decide +kernel
theorem d16_22 : decode prog_17_method_6_code 22 = .ok (.getfield 15, 3) := by decide +kernel
theorem d16_25 : decode prog_17_method_6_code 25 = .ok (.invokevirtual 30, 3) := by decide +kernel
theorem d16_28 : decode prog_17_method_6_code 28 = .ok (.ifCond .eq 49, 3) := by decide +kernel
theorem d16_31 : decode prog_17_method_6_code 31 = .ok (.aload_n 0, 1) := by decide +kernel
theorem d16_32 : decode prog_17_method_6_code 32 = .ok (.getfield 21, 3) := by decide +kernel
theorem d16_35 : decode prog_17_method_6_code 35 = .ok (.aload_n 2, 1) := by decide +kernel
theorem d16_36 : decode prog_17_method_6_code 36 = .ok (.getfield 21, 3) := by decide +kernel
theorem d16_39 : decode prog_17_method_6_code 39 = .ok (.invokevirtual 30, 3) := by decide +kernel
theorem d16_42 : decode prog_17_method_6_code 42 = .ok (.ifCond .eq 35, 3) := by decide +kernel
theorem d16_45 : decode prog_17_method_6_code 45 = .ok (.aload_n 0, 1) := by decide +kernel
theorem d16_46 : decode prog_17_method_6_code 46 = .ok (.getfield 24, 3) := by decide +kernel
theorem d16_49 : decode prog_17_method_6_code 49 = .ok (.aload_n 2, 1) := by decide +kernel
theorem d16_50 : decode prog_17_method_6_code 50 = .ok (.getfield 24, 3) := by decide +kernel
theorem d16_53 : decode prog_17_method_6_code 53 = .ok (.invokevirtual 30, 3) := by decide +kernel
theorem d16_56 : decode prog_17_method_6_code 56 = .ok (.ifCond .eq 21, 3) := by decide +kernel
theorem d16_59 : decode prog_17_method_6_code 59 = .ok (.aload_n 0, 1) := by decide +kernel
theorem d16_60 : decode prog_17_method_6_code 60 = .ok (.getfield 27, 3) := by decide +kernel
theorem d16_63 : decode prog_17_method_6_code 63 = .ok (.aload_n 2, 1) := by decide +kernel
theorem d16_64 : decode prog_17_method_6_code 64 = .ok (.getfield 27, 3) := by decide +kernel
theorem d16_67 : decode prog_17_method_6_code 67 = .ok (.invokevirtual 30, 3) := by decide +kernel
theorem d16_70 : decode prog_17_method_6_code 70 = .ok (.ifCond .eq 7, 3) := by decide +kernel
theorem d16_73 : decode prog_17_method_6_code 73 = .ok (.iconst 1, 1) := by decide +kernel
theorem d16_74 : decode prog_17_method_6_code 74 = .ok (.goto 4, 3) := by decide +kernel
theorem d16_77 : decode prog_17_method_6_code 77 = .ok (.iconst 0, 1) := by decide +kernel
theorem d16_78 : decode prog_17_method_6_code 78 = .ok (.ireturn, 1) := by decide +kernel
theorem d17_0 : decode method_3_code 0 = .ok (.iload_n 0, 1) := by decide +kernel
theorem d17_1 : decode method_3_code 1 = .ok (.iconst 3, 1) := by decide +kernel
theorem d17_2 : decode method_3_code 2 = .ok (.iand, 1) := by decide +kernel
theorem d17_3 : decode method_3_code 3 = .ok (.istore_n 1, 1) := by decide +kernel
theorem d17_4 : decode method_3_code 4 = .ok (.iload_n 1, 1) := by decide +kernel
theorem d17_5 : decode method_3_code 5 = .ok (.istore_n 2, 1) := by decide +kernel
theorem d17_6 : decode method_3_code 6 = .ok (.iload_n 1, 1) := by decide +kernel
theorem d17_7 : decode method_3_code 7 = .ok (.iconst 1, 1) := by decide +kernel
theorem d17_8 : decode method_3_code 8 = .ok (.if_icmp .lt 15, 3) := by decide +kernel
theorem d17_11 : decode method_3_code 11 = .ok (.iload_n 2, 1) := by decide +kernel
theorem d17_12 : decode method_3_code 12 = .ok (.iload_n 0, 1) := by decide +kernel
theorem d17_13 : decode method_3_code 13 = .ok (.iconst 2, 1) := by decide +kernel
theorem d17_14 : decode method_3_code 14 = .ok (.iushr, 1) := by decide +kernel
theorem d17_15 : decode method_3_code 15 = .ok (.sipush 255, 3) := by decide +kernel
theorem d17_18 : decode method_3_code 18 = .ok (.iand, 1) := by decide +kernel
theorem d17_19 : decode method_3_code 19 = .ok (.iconst 2, 1) := by decide +kernel
theorem d17_20 : decode method_3_code 20 = .ok (.ishl, 1) := by decide +kernel
theorem d17_21 : decode method_3_code 21 = .ok (.ior, 1) := by decide +kernel
theorem d17_22 : decode method_3_code 22 = .ok (.istore_n 2, 1) := by decide +kernel
theorem d17_23 : decode method_3_code 23 = .ok (.iload_n 1, 1) := by decide +kernel
theorem d17_24 : decode method_3_code 24 = .ok (.iconst 2, 1) := by decide +kernel
theorem d17_25 : decode method_3_code 25 = .ok (.if_icmp .lt 17, 3) := by decide +kernel
theorem d17_28 : decode method_3_code 28 = .ok (.iload_n 2, 1) := by decide +kernel
theorem d17_29 : decode method_3_code 29 = .ok (.iload_n 0, 1) := by decide +kernel
theorem d17_30 : decode method_3_code 30 = .ok (.bipush 10, 2) := by decide +kernel
theorem d17_32 : decode method_3_code 32 = .ok (.iushr, 1) := by decide +kernel
theorem d17_33 : decode method_3_code 33 = .ok (.sipush 255, 3) := by decide +kernel
theorem d17_36 : decode method_3_code 36 = .ok (.iand, 1) := by decide +kernel
theorem d17_37 : decode method_3_code 37 = .ok (.bipush 10, 2) := by decide +kernel
theorem d17_39 : decode method_3_code 39 = .ok (.ishl, 1) := by decide +kernel
theorem d17_40 : decode method_3_code 40 = .ok (.ior, 1) := by decide +kernel
theorem d17_41 : decode method_3_code 41 = .ok (.istore_n 2, 1) := by decide +kernel
theorem d17_42 : decode method_3_code 42 = .ok (.iload_n 1, 1) := by decide +kernel
theorem d17_43 : decode method_3_code 43 = .ok (.iconst 3, 1) := by decide +kernel
theorem d17_44 : decode method_3_code 44 = .ok (.if_icmp .lt 17, 3) := by decide +kernel
theorem d17_47 : decode method_3_code 47 = .ok (.iload_n 2, 1) := by decide +kernel
theorem d17_48 : decode method_3_code 48 = .ok (.iload_n 0, 1) := by decide +kernel
theorem d17_49 : decode method_3_code 49 = .ok (.bipush 18, 2) := by decide +kernel
theorem d17_51 : decode method_3_code 51 = .ok (.iushr, 1) := by decide +kernel
theorem d17_52 : decode method_3_code 52 = .ok (.sipush 255, 3) := by decide +kernel
theorem d17_55 : decode method_3_code 55 = .ok (.iand, 1) := by decide +kernel
theorem d17_56 : decode method_3_code 56 = .ok (.bipush 18, 2) := by decide +kernel
theorem d17_58 : decode method_3_code 58 = .ok (.ishl, 1) := by decide +kernel
theorem d17_59 : decode method_3_code 59 = .ok (.ior, 1) := by decide +kernel
theorem d17_60 : decode method_3_code 60 = .ok (.istore_n 2, 1) := by decide +kernel
theorem d17_61 : decode method_3_code 61 = .ok (.iload_n 2, 1) := by decide +kernel
theorem d17_62 : decode method_3_code 62 = .ok (.ireturn, 1) := by decide +kernel
theorem pn_0 : plainName "java/lang/String" = true := by first | (simp [plainName, overriddenIn]; done) | decide +kernel
theorem pn_1 : plainName "com/example/nameward/nameward/model/ClaimsRecordEqualsPinLaw" = true := by first | (simp [plainName, overriddenIn]; done) | decide +kernel
theorem pn_2 : plainName "java/lang/StringLatin1" = true := by first | (simp [plainName, overriddenIn]; done) | decide +kernel
theorem pn_3 : plainName "java/util/Objects" = true := by first | (simp [plainName, overriddenIn]; done) | decide +kernel
theorem pn_4 : plainName "com/example/nameward/nameward/model/ClaimsRecord" = true := by first | (simp [plainName, overriddenIn]; done) | decide +kernel
theorem pd_0 : parseMethodDescriptor "([CIILjava/lang/Void;)V" = some ⟨[(.array .char), .int, .int, (.object "java/lang/Void")], none⟩ := by decide +kernel
theorem pd_1 : parseMethodDescriptor "(C)Z" = some ⟨[.char], some .boolean⟩ := by decide +kernel
theorem pd_2 : parseMethodDescriptor "(C)[B" = some ⟨[.char], some (.array .byte)⟩ := by decide +kernel
theorem pd_3 : parseMethodDescriptor "([BB)V" = some ⟨[(.array .byte), .byte], none⟩ := by decide +kernel
theorem pd_4 : parseMethodDescriptor "([C)V" = some ⟨[(.array .char)], none⟩ := by decide +kernel
theorem pd_5 : parseMethodDescriptor "(C)Ljava/lang/String;" = some ⟨[.char], some (.object "java/lang/String")⟩ := by decide +kernel
theorem pd_6 : parseMethodDescriptor "(Ljava/lang/Object;)Ljava/lang/Object;" = some ⟨[(.object "java/lang/Object")], some (.object "java/lang/Object")⟩ := by decide +kernel
theorem pd_7 : parseMethodDescriptor "(Ljava/lang/Object;)Z" = some ⟨[(.object "java/lang/Object")], some .boolean⟩ := by decide +kernel
theorem pd_8 : parseMethodDescriptor "(J)I" = some ⟨[.long], some .int⟩ := by decide +kernel
theorem pd_9 : parseMethodDescriptor "(I)Ljava/lang/String;" = some ⟨[.int], some (.object "java/lang/String")⟩ := by decide +kernel
theorem pd_10 : parseMethodDescriptor "(Ljava/lang/String;Ljava/lang/String;Ljava/lang/String;Ljava/lang/String;)V" = some ⟨[(.object "java/lang/String"), (.object "java/lang/String"), (.object "java/lang/String"), (.object "java/lang/String")], none⟩ := by decide +kernel
theorem pd_11 : parseMethodDescriptor "(I)I" = some ⟨[.int], some .int⟩ := by decide +kernel
theorem own_eqv {a b : Term} {args : Array Value} {f s : State} {o : Option Outcome} {idx : List Nat} (h : (Cond.eq a b).value args f o s idx = some true) {v : Value} (hb : b.eval args f o idx s = some v) : a.eval args f o idx s = some v := by
  simp only [Cond.value] at h
  rw [hb] at h
  cases ha : a.eval args f o idx s with
  | none => rw [ha] at h; simp at h
  | some x => rw [ha] at h; cases x <;> cases v <;> simp_all

theorem own_ns_exa {Z : State} {h : Heap} {a : Addr} {C : String} (E : Exa Z h a C) : ∃ c : Cell, h[a]? = some c ∧ c.vm.isStatics = false := by obtain ⟨c, _, h1, _, _, h2, _⟩ := E; exact ⟨c, h1, h2⟩
theorem own_sta_keep {Z : State} {h h' : Heap} {C n d : String} {v : Value} {ws : List Addr} (F : Sta Z h C n d v) (K : Keep h h' ws) (q : ∀ x ∈ ws, ∃ c : Cell, h[x]? = some c ∧ c.vm.isStatics = false) : Sta Z h' C n d v := by
  obtain ⟨cf, i, k, f, st, cell, h1, h2, h3, h4, h5, h6, h7⟩ := F
  refine ⟨cf, i, k, f, st, cell, h1, h2, h3, h4, K.2.1 _ _ h5 (fun hm => ?_), h6, h7⟩
  obtain ⟨c, e1, e2⟩ := q _ hm
  rw [h5] at e1
  cases e1
  rw [h6] at e2
  cases e2
theorem own_ins_keep {Z : State} {h h' : Heap} {a : Addr} {C : String} {b : Bool} {ws : List Addr} (F : Ins Z h a C b) (K : Keep h h' ws) : Ins Z h' a C b := by
  obtain ⟨c, cT, h1, h2, h3⟩ := F
  obtain ⟨c', e1, e2, e3, e4⟩ := K.2.2 _ _ h1
  exact ⟨c', cT, e1, h2, by rw [e2, e3]; exact h3⟩

def own_EL : List (String × Nat) := [("java/lang/String", 7)]
def own_NA (Z : State) (h : Heap) (a : Addr) : Prop := ∃ (cell : Cell) (k : Class), h[a]? = some cell ∧ Z.vm.classes[cell.cls]? = some k ∧ k.kind = .ordinary
theorem own_na_exa {Z : State} {a0 : Array Value} {h : Heap} {a : Addr} {C : String} {n : Nat} (E : Exa Z h a C) (w : (Cond.instantiable C n).before a0 Z = true) : own_NA Z h a := by
  obtain ⟨cell, k, h1, h2, h3, -⟩ := E
  obtain ⟨c, k', i1, i2, i3, -⟩ := Cond.instantiable_spec w
  cases h2.symm.trans i1
  cases h3.symm.trans i2
  exact ⟨cell, k, h1, h3, i3⟩
theorem own_na_ne {Z : State} {h : Heap} {a t : Addr} {k : ClassId} {ty : FieldType} {z : Int32} {vs : List Value} {d : Value} (N : own_NA Z h a) (F : Arv Z h t k ty z vs d) : t ≠ a := fun q => by
  subst q
  obtain ⟨cell, kk, h1, h2, h3⟩ := N
  obtain ⟨c, ⟨A1, ⟨-, k2, hk2, comp, hkind⟩, -⟩, -⟩ := F
  cases h1.symm.trans A1
  cases h2.symm.trans hk2
  rw [h3] at hkind
  cases hkind
def Str (Z : State) (h : Heap) (x : Addr) (cs : List Int32) : Prop := ∃ (t : Addr) (kb : ClassId), Exa Z h x "java/lang/String" ∧ Fld Z h x "java/lang/String" "coder" "B" (.int (0 : Int32)) ∧ Fld Z h x "java/lang/String" "value" "[B" (.ref t) ∧ Arv Z h t kb .byte (Int32.ofNat cs.length) ((cs.map fun c => c.toInt8.toInt32).map Value.int) (.int (0 : Int32))
theorem Str.lt {Z : State} {h : Heap} {x : Addr} {cs : List Int32} (F : Str Z h x cs) : x < h.size := by obtain ⟨_, _, E, _⟩ := F; exact E.lt
theorem Str.exa {Z : State} {h : Heap} {x : Addr} {cs : List Int32} (F : Str Z h x cs) : Exa Z h x "java/lang/String" := by obtain ⟨_, _, E, _⟩ := F; exact E
theorem Str.ext {Z : State} {h h' : Heap} {x : Addr} {cs : List Int32} (F : Str Z h x cs) (E : Ext h h') : Str Z h' x cs := by obtain ⟨t, kb, a, b, c, d⟩ := F; exact ⟨t, kb, Exa.ext E a, Fld.ext E b, Fld.ext E c, d.ext E⟩
theorem Str.other {Z : State} {h h' : Heap} {x a : Addr} {cs : List Int32} {sl : Nat} {v : Value} (F : Str Z h x cs) (W : Wr h h' a sl v) (q : x ≠ a) (N : own_NA Z h a) : Str Z h' x cs := by
  obtain ⟨t, kb, f1, f2, f3, f4⟩ := F
  exact ⟨t, kb, Exa.wr W f1, Fld.other W f2 (Or.inl q), Fld.other W f3 (Or.inl q), f4.other W (own_na_ne N f4)⟩
theorem Str.keep {Z : State} {h h' : Heap} {x : Addr} {cs : List Int32} {ws : List Addr} (F : Str Z h x cs) (K : Keep h h' ws) (q : x ∉ ws) (N : ∀ w ∈ ws, own_NA Z h w) : Str Z h' x cs := by
  obtain ⟨t, kb, f1, f2, f3, f4⟩ := F
  exact ⟨t, kb, f1.keep K, f2.keep K q, f3.keep K q, f4.keep K (fun hm => own_na_ne (N _ hm) f4 rfl)⟩

theorem own_blank {Z : State} {EL : List (String × Nat)} {vm : Vm} {h : Heap} {x : Addr} (hal : Z.vm.Alike vm) (E : Exa Z h x "java/lang/String") (V : Fld Z h x "java/lang/String" "value" "[B" .null) : Safe Z EL vm h x := fun B => by
  obtain ⟨p, -, u, a, -, q, -, F, rfl | rfl⟩ := B
  · obtain ⟨cS, ⟨⟨hc, -, -, ⟨c1, k1, i1, f1, -⟩, -, -, -, v1, -⟩, -⟩, -⟩ := F
    obtain ⟨cell, cf, k, i, f, e1, e2, e3, e4, e5, e6, e7⟩ := V
    cases (show h[q.sa]? = some q.sC from hc).symm.trans e1
    obtain ⟨k3, e8, -⟩ := State.fieldFound?_setVm (s := Z) hal e2
    have e9 := (show (Wst Z vm h).fieldFound? _ _ _ = _ from e8).symm.trans f1
    simp only [Option.some.injEq, Prod.mk.injEq] at e9
    rw [← e9.2.2.2, e7] at v1
    simp at v1
  · obtain ⟨cell, k, e1, e2, e3, -, -⟩ := E
    cases (show h[q.sd]? = some q.SA from F.hd).symm.trans e1
    obtain ⟨cS, -, -, f, -⟩ := F
    have f' : vm.findClass "[B" = some q.SA.cls := f
    rw [hal.findClass] at f'
    obtain ⟨k1, q1, q2⟩ := Vm.findClass_spec f'
    obtain ⟨k2, q3, q4⟩ := Vm.findClass_spec e2
    cases q1.symm.trans q3
    exact absurd (q2.symm.trans q4) (by decide)

theorem own_wS {Z : State} {a0 : Array Value} (hw : ∀ d ∈ tables_1, d.before a0 Z = true) : ∀ a ∈ Bundle.stringAtoms, a.before a0 Z = true := fun d hd => hw d ((by decide +kernel : ∀ d ∈ Bundle.stringAtoms, d ∈ tables_1) d hd)

theorem own_nar {x : Int32} (h : ¬ x < 0 ∧ ¬ (255 : Int32) < x) : nar .char x = x := by
  have a := c_i2c x
  have r := rng32 x
  have k0 : (0 : Int32).toInt = 0 := rfl
  have k1 : (255 : Int32).toInt = 255 := rfl
  rw [Int32.lt_iff_toInt_lt, Int32.lt_iff_toInt_lt, k0, k1] at h
  exact Int32.toInt_inj.mp (show (x.toUInt32.toUInt16.toUInt32.toInt32).toInt = x.toInt by omega)
def own_seq (cs ds : List Int32) : Int32 := if cs = ds then 1 else 0
theorem own_nb (x : Int32) : nar .byte (x.toInt8.toInt32) = x.toInt8.toInt32 := by
  show (x.toInt8.toInt32).toInt8.toInt32 = x.toInt8.toInt32
  have h : (x.toInt8.toInt32).toInt8 = x.toInt8 := by simp
  rw [h]

theorem own_ws {Z : State} {a0 : Array Value} (hw : ∀ d ∈ tables_1, d.before a0 Z = true) : ∀ d ∈ StrChars.Road.words, d.before a0 Z = true := fun d hd => hw d ((by decide +kernel : ∀ d ∈ StrChars.Road.words, d ∈ tables_1) d hd)
theorem own_weq {Z : State} {a0 : Array Value} (hw : ∀ d ∈ tables_1, d.before a0 Z = true) : ∀ d ∈ StrChars.Road.wordsEq, d.before a0 Z = true := fun d hd => hw d ((by decide +kernel : ∀ d ∈ StrChars.Road.wordsEq, d ∈ tables_1) d hd)
theorem own_seqv {v : Option Value} {cs ds : List Int32} (h : (v = some (.int 1) ∧ cs = ds) ∨ (v = some (.int 0) ∧ ¬ cs = ds)) : v = some (.int (own_seq cs ds)) := by
  rcases h with ⟨rfl, h⟩ | ⟨rfl, h⟩
  · rw [own_seq, if_pos h]
  · rw [own_seq, if_neg h]
theorem own_up {cs : List Int32} (h : ∀ c ∈ cs, ¬ c < 0 ∧ ¬ (255 : Int32) < c) : ∀ c ∈ cs, ¬ c < 0 ∧ ¬ (65535 : Int32) < c := fun c hc => by
  have z := (h c hc).2
  have k1 : (255 : Int32).toInt = 255 := rfl
  have k2 : (65535 : Int32).toInt = 65535 := rfl
  refine ⟨(h c hc).1, ?_⟩
  rw [Int32.lt_iff_toInt_lt, k1] at z
  rw [Int32.lt_iff_toInt_lt, k2]
  omega
theorem own_l4 {n : Nat} (h : n ≤ 3) : n ≤ 4000 := by omega

def own_in4 (n : Int32) : Prop := n = 0 ∨ n = 1 ∨ n = 2 ∨ n = 3
def own_b8 (x : Int32) : Prop := 0 ≤ x.toInt ∧ x.toInt ≤ 255
def own_cs (n x y z : Int32) : List Int32 := if n = 0 then [] else if n = 1 then [x] else if n = 2 then [x, y] else [x, y, z]
def own_k1 (n x : Int32) : Int32 := if n < 1 then n else n ||| (x <<< ((2 : Int32) &&& 31))
def own_k2 (n k y : Int32) : Int32 := if n < 2 then k else k ||| (y <<< ((10 : Int32) &&& 31))
def own_k3 (n k z : Int32) : Int32 := if n < 3 then k else k ||| (z <<< ((18 : Int32) &&& 31))
def own_k (n x y z : Int32) : Int32 := own_k3 n (own_k2 n (own_k1 n x) y) z
theorem own_or1 {n x : Int32} (hn : 0 ≤ n.toInt ∧ n.toInt ≤ 3) (hx : own_b8 x) : (n ||| (x <<< ((2 : Int32) &&& 31))).toInt = n.toInt + 4 * x.toInt := by
  unfold own_b8 at hx
  have a := c_ishl x 2 2 (by decide)
  have r := rng32 (x <<< ((2 : Int32) &&& 31))
  have e : (x <<< ((2 : Int32) &&& 31)).toInt = 4 * x.toInt := by omega
  have b := c_or (x <<< ((2 : Int32) &&& 31)) n 2 (by decide) 4 rfl (by omega) (by omega) (by omega)
  have r2 := rng32 ((x <<< ((2 : Int32) &&& 31)) ||| n)
  rw [Int32.or_comm]
  omega
theorem own_or2 {n x : Int32} (hn : 0 ≤ n.toInt ∧ n.toInt ≤ 1023) (hx : own_b8 x) : (n ||| (x <<< ((10 : Int32) &&& 31))).toInt = n.toInt + 1024 * x.toInt := by
  unfold own_b8 at hx
  have a := c_ishl x 10 10 (by decide)
  have r := rng32 (x <<< ((10 : Int32) &&& 31))
  have e : (x <<< ((10 : Int32) &&& 31)).toInt = 1024 * x.toInt := by omega
  have b := c_or (x <<< ((10 : Int32) &&& 31)) n 10 (by decide) 1024 rfl (by omega) (by omega) (by omega)
  have r2 := rng32 ((x <<< ((10 : Int32) &&& 31)) ||| n)
  rw [Int32.or_comm]
  omega
theorem own_or3 {n x : Int32} (hn : 0 ≤ n.toInt ∧ n.toInt ≤ 262143) (hx : own_b8 x) : (n ||| (x <<< ((18 : Int32) &&& 31))).toInt = n.toInt + 262144 * x.toInt := by
  unfold own_b8 at hx
  have a := c_ishl x 18 18 (by decide)
  have r := rng32 (x <<< ((18 : Int32) &&& 31))
  have e : (x <<< ((18 : Int32) &&& 31)).toInt = 262144 * x.toInt := by omega
  have b := c_or (x <<< ((18 : Int32) &&& 31)) n 18 (by decide) 262144 rfl (by omega) (by omega) (by omega)
  have r2 := rng32 ((x <<< ((18 : Int32) &&& 31)) ||| n)
  rw [Int32.or_comm]
  omega
theorem own_kv {n x y z : Int32} (hn : own_in4 n) (hx : own_b8 x) (hy : own_b8 y) (hz : own_b8 z) :
    (own_k n x y z).toInt = n.toInt + (if n < 1 then 0 else 4 * x.toInt) + (if n < 2 then 0 else 1024 * y.toInt) + (if n < 3 then 0 else 262144 * z.toInt) := by
  have k0 : (0 : Int32).toInt = 0 := rfl
  have k1 : (1 : Int32).toInt = 1 := rfl
  have k2 : (2 : Int32).toInt = 2 := rfl
  have k3 : (3 : Int32).toInt = 3 := rfl
  have hx' := hx
  have hy' := hy
  unfold own_b8 at hx' hy'
  rcases hn with rfl | rfl | rfl | rfl
  · rfl
  · have e1 := own_or1 (n := 1) (by decide) hx
    show (1 ||| (x <<< ((2 : Int32) &&& 31))).toInt = _
    rw [e1, if_neg (by decide), if_pos (by decide), if_pos (by decide)]; omega
  · have e1 := own_or1 (n := 2) (by decide) hx
    have e2 := own_or2 (n := 2 ||| (x <<< ((2 : Int32) &&& 31))) (by omega) hy
    show ((2 ||| (x <<< ((2 : Int32) &&& 31))) ||| (y <<< ((10 : Int32) &&& 31))).toInt = _
    rw [e2, e1, if_neg (by decide), if_neg (by decide), if_pos (by decide)]; omega
  · have e1 := own_or1 (n := 3) (by decide) hx
    have e2 := own_or2 (n := 3 ||| (x <<< ((2 : Int32) &&& 31))) (by omega) hy
    have e3 := own_or3 (n := (3 ||| (x <<< ((2 : Int32) &&& 31))) ||| (y <<< ((10 : Int32) &&& 31))) (by omega) hz
    show (((3 ||| (x <<< ((2 : Int32) &&& 31))) ||| (y <<< ((10 : Int32) &&& 31))) ||| (z <<< ((18 : Int32) &&& 31))).toInt = _
    rw [e3, e2, e1, if_neg (by decide), if_neg (by decide), if_neg (by decide)]
theorem own_i32 (x y : Int32) : (x = y) ↔ x.toInt = y.toInt := Int32.toInt_inj.symm
theorem own_keq {n x y z n' x' y' z' : Int32} (hn : own_in4 n) (hx : own_b8 x) (hy : own_b8 y) (hz : own_b8 z) (hn' : own_in4 n') (hx' : own_b8 x') (hy' : own_b8 y') (hz' : own_b8 z') :
    own_k n x y z = own_k n' x' y' z' ↔ own_cs n x y z = own_cs n' x' y' z' := by
  have a := own_kv hn hx hy hz
  have b := own_kv hn' hx' hy' hz'
  rw [own_i32, a, b]
  unfold own_b8 at *
  rcases hn with rfl | rfl | rfl | rfl <;> rcases hn' with rfl | rfl | rfl | rfl <;> simp +decide [own_cs, own_i32] <;> omega
theorem own_m8 (x : Int32) : own_b8 (x &&& 255) := by
  have a := c_and x 255 (by decide)
  have k : (255 : Int32).toInt = 255 := rfl
  unfold own_b8; omega
theorem own_b8ok {x : Int32} (h : own_b8 x) : ¬ x < 0 ∧ ¬ (255 : Int32) < x := by
  have k0 : (0 : Int32).toInt = 0 := rfl
  have k : (255 : Int32).toInt = 255 := rfl
  unfold own_b8 at h
  rw [Int32.lt_iff_toInt_lt, Int32.lt_iff_toInt_lt, k0, k]; omega
theorem own_four (n : Int32) : own_in4 (n &&& 3) := by
  have a := c_and n 3 (by decide)
  have k3 : (3 : Int32).toInt = 3 := rfl
  have e : ∀ k : Int32, (n &&& 3).toInt = k.toInt → n &&& 3 = k := fun k h => Int32.toInt_inj.mp h
  have c : (n &&& 3).toInt = 0 ∨ (n &&& 3).toInt = 1 ∨ (n &&& 3).toInt = 2 ∨ (n &&& 3).toInt = 3 := by omega
  rcases c with c | c | c | c
  · exact Or.inl (e 0 c)
  · exact Or.inr (Or.inl (e 1 c))
  · exact Or.inr (Or.inr (Or.inl (e 2 c)))
  · exact Or.inr (Or.inr (Or.inr (e 3 c)))
def own_cc (q k : Int32) : Int32 := (((q.toUInt32 >>> (k &&& 31).toUInt32).toInt32) &&& (255 : Int32))
theorem own_icc (q k : Int32) : (((q.toUInt32 >>> (k &&& 31).toUInt32).toInt32) &&& (255 : Int32)).toUInt32.toUInt16.toUInt32.toInt32 = own_cc q k := own_nar (own_b8ok (own_m8 _))
theorem own_cc8 (q k : Int32) : own_b8 (own_cc q k) := own_m8 _
def own_mc (q : Int32) : List Int32 := own_cs (q &&& 3) (own_cc q 2) (own_cc q 10) (own_cc q 18)
def own_key (q : Int32) : Int32 := own_k (q &&& 3) (own_cc q 2) (own_cc q 10) (own_cc q 18)
theorem own_keymc (p q : Int32) : own_key p = own_key q ↔ own_mc p = own_mc q := own_keq (own_four p) (own_cc8 _ _) (own_cc8 _ _) (own_cc8 _ _) (own_four q) (own_cc8 _ _) (own_cc8 _ _) (own_cc8 _ _)
theorem own_mcok (q : Int32) : ∀ c ∈ own_mc q, ¬ c < 0 ∧ ¬ (255 : Int32) < c := by
  intro c hc
  unfold own_mc own_cs at hc
  have f : ∀ k, ¬ own_cc q k < 0 ∧ ¬ (255 : Int32) < own_cc q k := fun k => own_b8ok (own_cc8 q k)
  split at hc
  · cases hc
  · split at hc
    · simp only [List.mem_cons, List.not_mem_nil, or_false] at hc; subst hc; exact f _
    · split at hc
      · simp only [List.mem_cons, List.not_mem_nil, or_false] at hc; rcases hc with rfl | rfl <;> exact f _
      · simp only [List.mem_cons, List.not_mem_nil, or_false] at hc; rcases hc with rfl | rfl | rfl <;> exact f _
theorem own_mclen (q : Int32) : (own_mc q).length ≤ 3 := by
  unfold own_mc own_cs
  repeat' split
  all_goals simp
def own_and4 (x y z t : Int32) : Int32 := if x = 0 then 0 else if y = 0 then 0 else if z = 0 then 0 else if t = 0 then 0 else 1
theorem own_seq0 (cs ds : List Int32) : own_seq cs ds = 0 ↔ ¬ cs = ds := by
  unfold own_seq
  split <;> rename_i h <;> simp [h]
def own_exp (a1 a2 b1 b2 c1 c2 d1 d2 : Int32) : Int32 := if own_key a1 = own_key a2 ∧ own_key b1 = own_key b2 ∧ own_key c1 = own_key c2 ∧ own_key d1 = own_key d2 then 1 else 0
theorem own_law (a1 a2 b1 b2 c1 c2 d1 d2 : Int32) : own_and4 (own_seq (own_mc a1) (own_mc a2)) (own_seq (own_mc b1) (own_mc b2)) (own_seq (own_mc c1) (own_mc c2)) (own_seq (own_mc d1) (own_mc d2)) = own_exp a1 a2 b1 b2 c1 c2 d1 d2 := by
  unfold own_and4 own_exp
  simp only [own_seq0, own_keymc]
  by_cases h1 : own_mc a1 = own_mc a2 <;> by_cases h2 : own_mc b1 = own_mc b2 <;> by_cases h3 : own_mc c1 = own_mc c2 <;> by_cases h4 : own_mc d1 = own_mc d2 <;> simp [h1, h2, h3, h4]
theorem own_law2 (a1 a2 b1 b2 c1 c2 d1 d2 : Int32) : own_and4 (own_seq (own_mc a2) (own_mc a1)) (own_seq (own_mc b2) (own_mc b1)) (own_seq (own_mc c2) (own_mc c1)) (own_seq (own_mc d2) (own_mc d1)) = own_exp a1 a2 b1 b2 c1 c2 d1 d2 := by
  rw [own_law]; unfold own_exp
  simp only [@eq_comm _ (own_key a2) (own_key a1), @eq_comm _ (own_key b2) (own_key b1), @eq_comm _ (own_key c2) (own_key c1), @eq_comm _ (own_key d2) (own_key d1)]
theorem own_refl (a b c d : List Int32) : own_and4 (own_seq a a) (own_seq b b) (own_seq c c) (own_seq d d) = 1 := by simp [own_and4, own_seq]
theorem own_noinst {Z : State} {a0 : Array Value} {K : String} {n : Nat} (w : (Cond.superclass "java/lang/String" "java/lang/Object").before a0 Z = true) (wo : (Cond.noSuperclass "java/lang/Object").before a0 Z = true) (wk : (Cond.instantiable K n).before a0 Z = true) (hn : "java/lang/String" ≠ K) (ho : "java/lang/Object" ≠ K) :
    ∃ c t, Z.vm.findClass "java/lang/String" = some c ∧ Z.vm.findClass K = some t ∧ Z.vm.assignable c t = false := by
  obtain ⟨cO, kO, o1, o2, o3, -, -⟩ := Cond.noSuperclass_spec wo
  obtain ⟨c, h0⟩ := found_sup w
  obtain ⟨p, k, kp, h1, h2, h3, h4, h5, -, h7⟩ := Cond.superclass_spec h0 w
  obtain ⟨t, kt, i1, i2, i3, i4, i5⟩ := Cond.instantiable_spec wk
  cases o1.symm.trans h1
  have ne := ids_ne h0 i1 hn
  have ne2 := ids_ne o1 i1 ho
  have sub : ∀ fuel, Z.vm.isSubclassAux fuel c t = false := fun fuel => by
    cases fuel with
    | zero => rfl
    | succ f =>
      cases f with
      | zero => simp [Vm.isSubclassAux, ne, h2, h4]
      | succ g => simp [Vm.isSubclassAux, ne, ne2, h2, h4, o2, o3]
  have i6 : kt.isInterface = false := by cases hq : kt.isInterface <;> simp_all
  refine ⟨c, t, h0, i1, ?_⟩
  show Z.vm.assignableAux (255 + 1) c t = false
  simp [Vm.assignableAux, ne, h2, i2, h5, i3, i6, Vm.isSubclass, sub]

theorem ef_rmS5 (m : MethodId) (a : Addr) (b : Addr) : entryFrame m #[(.ref a), (.ref b), (.int (0 : Int32)), (.int (0 : Int32)), .null] 6 = mkF m 0 #[.val (.ref a), .val (.ref b), .val (.int (0 : Int32)), .val (.int (0 : Int32)), .val .null, .unset] [] := by first | (simp [entryFrame, mkF, argsToLocals, Value.category]; done) | rfl
def QrmS5 (Z : State) (a : Addr) (b : Addr) (h0 : Heap) (n0 : Nat) (v : Option Value) (h : Heap) (L : List Loc) : Prop := v = none ∧ Fr n0 L ∧ Keep h0 h [a] ∧ Str Z h a []
def PrmS5 (s : State) (Z : State) (a : Addr) (b : Addr) (h0 : Heap) (n0 : Nat) : State → Outcome → Prop := fun U' o => ∃ v L, o = .returned v ∧ QrmS5 Z a b h0 n0 v U'.heap L ∧ CHr Z own_EL s.vm s.heap U'.vm U'.heap ∧ ReturnedEndW s o U' L ({ frames := 1, cells := 2, slots := 4, locals := 12 } : Room).cells ({ frames := 1, cells := 2, slots := 4, locals := 12 } : Room).slots
set_option maxRecDepth 65536 in
set_option maxHeartbeats 40000000 in
theorem rmS5 (l : Launch) (Z : State) (a0 : Array Value) (hw : ∀ d ∈ tables_1, d.before a0 Z = true) (ws : List Jvm.Cond) (a : Addr) (b : Addr) (h0 : Heap) (n0 : Nat) (Z0 : n0 ≤ h0.size) (Fv : Fld Z h0 a "java/lang/String" "value" "[B" .null) (Fc : Fld Z h0 a "java/lang/String" "coder" "B" (.int (0 : Int32))) (Ea : Exa Z h0 a "java/lang/String") (ga : n0 ≤ a) :
    MetFree l (⟨"java/lang/String", "<init>", "([CIILjava/lang/Void;)V"⟩ : MethodName) (head1 (Jvm.Cond.code (⟨"java/lang/String", "<init>", "([CIILjava/lang/Void;)V"⟩ : MethodName) jdk_42_method_149_code 6 none :: ws) ({ frames := 1, cells := 2, slots := 4, locals := 12 } : Room)) (fun aa U => aa = #[(.ref a), (.ref b), (.int (0 : Int32)), (.int (0 : Int32)), .null] ∧ Z.Warmed39 U.vm ∧ U.heap = h0 ∧ CHv Z own_EL U.vm h0) (fun _ _ _ _ _ => True) (fun _ U o U' => ∃ v L, o = .returned v ∧ QrmS5 Z a b h0 n0 v U'.heap L ∧ CHr Z own_EL U.vm U.heap U'.vm U'.heap ∧ ReturnedEndW U o U' L ({ frames := 1, cells := 2, slots := 4, locals := 12 } : Room).cells ({ frames := 1, cells := 2, slots := 4, locals := 12 } : Room).slots) := by
  refine MetFree.of_bodySF (plainFor_of_name pn_0) hisR ?_
  intro p e s m args below meth c s₁ Bd hml0 hP hK
  obtain ⟨rfl, hZ, hh, hC0⟩ := hP
  have hx := Bd.exec
  have hlk : meth.locks = false := by first | exact BodyLoose.notSynchronized Bd | exact Body.notSynchronized Bd
  have hby := Bd.bytes
  have hml : c.maxLocals = 6 := hml0
  have hown : s.vm.findClass "java/lang/String" = some m.cls := findClass_of_methodNamed Bd.named
  have hnm := (name_of_methodNamed Bd.named Bd.method).1
  have X0 : Stand p l e ({ frames := 1, cells := 2, slots := 4, locals := 12 } : Room) (s.setVm s.vm) m #[(.ref a), (.ref b), (.int (0 : Int32)), (.int (0 : Int32)), .null] below meth c s₁ [] 0 0 := Stand.of_body Bd
  have e0 : s₁.heap = h0 := by rw [← hh, Bd.state]; rfl
  have N0 := Fr.nil n0
  have hEL : EW Z a0 own_EL := EW.cons (hw _ (List.mem_of_getElem? (i := 27) rfl)) (by decide) EW.nil
  have hS0 : s.Since s.vm 0 := (State.WarmedH.refl s).since 0
  have hk0 : 0 ≤ h0.size := Nat.zero_le _
  have R0 : CHr Z own_EL s.vm h0 s.vm h0 := CHr.refl hC0
  show Done p e below (PrmS5 s Z a b h0 n0) (s₁.setTop (entryFrame m #[(.ref a), (.ref b), (.int (0 : Int32)), (.int (0 : Int32)), .null] 6))
  refine Done.st (B := s₁.setTop (mkF m 0 #[.val (.ref a), .val (.ref b), .val (.int (0 : Int32)), .val (.int (0 : Int32)), .val .null, .unset] [])) (fun _ k => castTop (ef_rmS5 m a b) k) ?_
  refine Done.st (B := s₁.setTop (mkF m 1 #[.val (.ref a), .val (.ref b), .val (.int (0 : Int32)), .val (.int (0 : Int32)), .val .null, .unset] [(.ref a)])) (fun _ k => XS.aloadN X0.here hx rfl (hb hby d5_0) rfl rfl k) ?_
  obtain ⟨T1, X1, e1, st1⟩ := initO X0 hx hZ hown (hw _ (List.mem_of_getElem? (i := 24) rfl)) (hw _ (List.mem_of_getElem? (i := 25) rfl)) (hw _ (List.mem_of_getElem? (i := 26) rfl)) e0 (g := (mkF m 1 #[.val (.ref a), .val (.ref b), .val (.int (0 : Int32)), .val (.int (0 : Int32)), .val .null, .unset] [(.ref a)])) rfl (by rw [hml]; rfl) rfl (hb hby d5_1) (by decide) (W := 0) (by show 2 * 0 + _ ≤ _; exact Nat.le_of_eq rfl) (by decide)
  refine Done.st (B := T1.setTop (mkF m 4 #[.val (.ref a), .val (.ref b), .val (.int (0 : Int32)), .val (.int (0 : Int32)), .val .null, .unset] [])) (fun _ k => st1 _ k) ?_
  refine Done.st (B := T1.setTop (mkF m 5 #[.val (.ref a), .val (.ref b), .val (.int (0 : Int32)), .val (.int (0 : Int32)), .val .null, .unset] [(.int (0 : Int32))])) (fun _ k => XS.iloadN X1.here hx rfl (hb hby d5_4) rfl k) ?_
  refine Done.st (B := T1.setTop (mkF m 8 #[.val (.ref a), .val (.ref b), .val (.int (0 : Int32)), .val (.int (0 : Int32)), .val .null, .unset] [])) (fun _ k => XS.ifNo X1.here hx rfl (hb hby d5_5) rfl ((if0 _ _).trans (teq (rfl : (0 : Int32) = (0 : Int32))).2) k) ?_
  refine Done.st (B := T1.setTop (mkF m 9 #[.val (.ref a), .val (.ref b), .val (.int (0 : Int32)), .val (.int (0 : Int32)), .val .null, .unset] [(.ref a)])) (fun _ k => XS.aloadN X1.here hx rfl (hb hby d5_8) rfl rfl k) ?_
  have sa_a_2 := (own_blank (EL := own_EL) hZ.alike Ea Fv)
  obtain ⟨lit2, T2, h2, k12, lv2, kl2, X2, e2, E2, hS2, hk2, hZ, hown, f2_0, f2_1, f2_2, f2_3, -, -, cr2, L2, sn2, st2⟩ := ldcCH X1 hx hZ hown (hw _ (List.mem_of_getElem? (i := 27) rfl)) (own_wS hw) e1 hS0 hk0 hEL (by decide) hC0 (vs := []) (z := 0) ⟨by decide, rfl⟩ (by decide) rfl (g := (mkF m 9 #[.val (.ref a), .val (.ref b), .val (.int (0 : Int32)), .val (.int (0 : Int32)), .val .null, .unset] [(.ref a)])) rfl (hb hby d5_9) (n := 0) (by decide) (by decide) (by decide) (by decide)
  have R2 := R0.trans cr2
  have C2 := cr2.1
  have sb_a_2 := sn2 a (cr2.safe Ea.lt sa_a_2)
  have Z2 : n0 ≤ h2.size := Nat.le_trans Z0 E2.1
  have KK2 : Keep h0 h2 [a] := ((Keep.refl h0 [a])).ext E2
  refine Done.st (B := T2.setTop (mkF m 11 #[.val (.ref a), .val (.ref b), .val (.int (0 : Int32)), .val (.int (0 : Int32)), .val .null, .unset] [(.ref lit2), (.ref a)])) (fun _ k => st2 _ k) ?_
  obtain ⟨T3, X3, e3, st3⟩ := getF X2 hx hZ hown (host := "") (Or.inl (hw _ (List.mem_of_getElem? (i := 33) rfl))) Via.refl e2 f2_2 (g := (mkF m 11 #[.val (.ref a), .val (.ref b), .val (.int (0 : Int32)), .val (.int (0 : Int32)), .val .null, .unset] [(.ref lit2), (.ref a)])) rfl rfl (hb hby d5_11)
  refine Done.st (B := T3.setTop (mkF m 14 #[.val (.ref a), .val (.ref b), .val (.int (0 : Int32)), .val (.int (0 : Int32)), .val .null, .unset] [(.ref lv2), (.ref a)])) (fun _ k => st3 _ k) ?_
  have c4 := (Exa.ext E2 Ea)
  have c5 := (Fld.ext E2 Fv)
  obtain ⟨T6, h6, X6, e6, W6, st6⟩ := putF X3 hx hZ hown (host := "") (Or.inl (hw _ (List.mem_of_getElem? (i := 33) rfl))) Via.refl e3 c5 c4 (Or.inr ⟨(hw _ (List.mem_of_getElem? (i := 29) rfl)), rfl, hnm⟩) (hw _ (List.mem_of_getElem? (i := 14) rfl)) (ty := (.array .byte)) (by decide) rfl rfl (g := (mkF m 14 #[.val (.ref a), .val (.ref b), .val (.int (0 : Int32)), .val (.int (0 : Int32)), .val .null, .unset] [(.ref lv2), (.ref a)])) rfl rfl (hb hby d5_14)
  have F6 := Fld.same W6 c5
  have N6 := Fr.snoc X6 N0 ga
  have Z6 : n0 ≤ h6.size := Nat.le_trans Z2 (Keep.of_wr W6).1
  have C6 := CHv.wr W6 (own_blank (EL := own_EL) hZ.alike c4 c5) C2
  have R6 := R2.trans (CHr.wr W6 (own_blank (EL := own_EL) hZ.alike c4 c5) C2)
  have hk6 := Nat.le_trans hk2 (Keep.of_wr W6).1
  have sf6 := Safe.wr W6 (own_blank (EL := own_EL) hZ.alike c4 c5) C2 (own_blank (EL := own_EL) hZ.alike c4 c5)
  have KK6 : Keep h0 h6 [a] := (KK2).wr W6 (Or.inl (List.mem_of_getElem? (i := 0) rfl))
  refine Done.st (B := T6.setTop (mkF m 17 #[.val (.ref a), .val (.ref b), .val (.int (0 : Int32)), .val (.int (0 : Int32)), .val .null, .unset] [])) (fun _ k => st6 _ k) ?_
  refine Done.st (B := T6.setTop (mkF m 18 #[.val (.ref a), .val (.ref b), .val (.int (0 : Int32)), .val (.int (0 : Int32)), .val .null, .unset] [(.ref a)])) (fun _ k => XS.aloadN X6.here hx rfl (hb hby d5_17) rfl rfl k) ?_
  refine Done.st (B := T6.setTop (mkF m 20 #[.val (.ref a), .val (.ref b), .val (.int (0 : Int32)), .val (.int (0 : Int32)), .val .null, .unset] [(.ref lit2), (.ref a)])) (fun _ k => ldcAgain X6 hx hZ hown (hw _ (List.mem_of_getElem? (i := 27) rfl)) L2 (g := (mkF m 18 #[.val (.ref a), .val (.ref b), .val (.int (0 : Int32)), .val (.int (0 : Int32)), .val .null, .unset] [(.ref a)])) rfl (hb hby d5_18) _ k) ?_
  have c8 := (Fld.other W6 f2_1 (Or.inl (Ne.symm sb_a_2.1)))
  obtain ⟨T7, X7, e7, st7⟩ := getF X6 hx hZ hown (host := "") (Or.inl (hw _ (List.mem_of_getElem? (i := 34) rfl))) Via.refl e6 c8 (g := (mkF m 20 #[.val (.ref a), .val (.ref b), .val (.int (0 : Int32)), .val (.int (0 : Int32)), .val .null, .unset] [(.ref lit2), (.ref a)])) rfl rfl (hb hby d5_20)
  refine Done.st (B := T7.setTop (mkF m 23 #[.val (.ref a), .val (.ref b), .val (.int (0 : Int32)), .val (.int (0 : Int32)), .val .null, .unset] [(.int (0 : Int32)), (.ref a)])) (fun _ k => st7 _ k) ?_
  have c9 := (Exa.wr W6 c4)
  have c10 := (Fld.other W6 (Fld.ext E2 Fc) (Or.inr (slot_ne (Or.inr (hw _ (List.mem_of_getElem? (i := 30) rfl))) (Or.inr (hw _ (List.mem_of_getElem? (i := 29) rfl))) (by decide) (t := .byte) (t' := (.array .byte)) (by decide) (by decide))))
  obtain ⟨T11, h11, X11, e11, W11, st11⟩ := putFN X7 hx hZ hown (hw _ (List.mem_of_getElem? (i := 34) rfl)) Via.refl e7 c10 c9 (Or.inr ⟨(hw _ (List.mem_of_getElem? (i := 30) rfl)), rfl, hnm⟩) (hw _ (List.mem_of_getElem? (i := 14) rfl)) (ty := .byte) (v' := (.int (0 : Int32))) (by decide) rfl rfl (g := (mkF m 23 #[.val (.ref a), .val (.ref b), .val (.int (0 : Int32)), .val (.int (0 : Int32)), .val .null, .unset] [(.int (0 : Int32)), (.ref a)])) rfl rfl (hb hby d5_23)
  have F11 := Fld.same W11 c10
  have N11 := Fr.snoc X11 N6 ga
  have Z11 : n0 ≤ h11.size := Nat.le_trans Z6 (Keep.of_wr W11).1
  have C11 := CHv.wr W11 sf6 C6
  have R11 := R6.trans (CHr.wr W11 sf6 C6)
  have hk11 := Nat.le_trans hk6 (Keep.of_wr W11).1
  have sf11 := Safe.wr W11 sf6 C6 sf6
  have KK11 : Keep h0 h11 [a] := (KK6).wr W11 (Or.inl (List.mem_of_getElem? (i := 0) rfl))
  refine Done.st (B := T11.setTop (mkF m 26 #[.val (.ref a), .val (.ref b), .val (.int (0 : Int32)), .val (.int (0 : Int32)), .val .null, .unset] [])) (fun _ k => st11 _ k) ?_
  obtain ⟨fs, hr, hrun, hended, hWW⟩ := X11.leaveW hS2 (by rw [e11]; exact hk11) (v := none) (hlocks := hlk) (fun _ => rfl)
  have c13 := (Exa.wr W11 c9)
  have c14 := (Fld.other W11 F6 (Or.inr (slot_ne (Or.inr (hw _ (List.mem_of_getElem? (i := 29) rfl))) (Or.inr (hw _ (List.mem_of_getElem? (i := 30) rfl))) (by decide) (t := (.array .byte)) (t' := .byte) (by decide) (by decide))))
  have c15 := ((f2_3.other W6 (Ne.symm sb_a_2.2)).other W11 (Ne.symm sb_a_2.2))
  refine Done.fin (X11.returnOut hx Bd.returns (hb hby d5_26) hr) hrun hended ⟨_, _, rfl, ?_, ?_, hWW.1, hWW.2.1, hWW.2.2.1, hWW.2.2.2.mono (by decide) (by decide)⟩
  rotate_left
  · show CHr Z own_EL s.vm s.heap T11.vm T11.heap
    rw [hh, e11]
    exact R11.trans (CHv.at X11 hZ hEL C11)
  show QrmS5 Z a b h0 n0 _ T11.heap _
  rw [e11]
  exact ⟨rfl, N11, KK11, ⟨lv2, _, c13, F11, c14, c15⟩⟩
theorem ef_rmS1 (m : MethodId) (a : Addr) (b : Addr) : entryFrame m #[(.ref a), (.ref b)] 2 = mkF m 0 #[.val (.ref a), .val (.ref b)] [] := by first | (simp [entryFrame, mkF, argsToLocals, Value.category]; done) | rfl
def QrmS1 (Z : State) (a : Addr) (b : Addr) (kc : ClassId) (h0 : Heap) (n0 : Nat) (v : Option Value) (h : Heap) (L : List Loc) : Prop := v = none ∧ Fr n0 L ∧ Keep h0 h [a] ∧ Str Z h a []
def PrmS1 (s : State) (Z : State) (a : Addr) (b : Addr) (kc : ClassId) (h0 : Heap) (n0 : Nat) : State → Outcome → Prop := fun U' o => ∃ v L, o = .returned v ∧ QrmS1 Z a b kc h0 n0 v U'.heap L ∧ CHr Z own_EL s.vm s.heap U'.vm U'.heap ∧ ReturnedEndW s o U' L ({ frames := 2, cells := 2, slots := 4, locals := 29 } : Room).cells ({ frames := 2, cells := 2, slots := 4, locals := 29 } : Room).slots
set_option maxRecDepth 65536 in
set_option maxHeartbeats 40000000 in
theorem rmS1 (l : Launch) (Z : State) (a0 : Array Value) (hw : ∀ d ∈ tables_1, d.before a0 Z = true) (ws : List Jvm.Cond) (a : Addr) (b : Addr) (kc : ClassId) (h0 : Heap) (n0 : Nat) (Z0 : n0 ≤ h0.size) (Fv : Fld Z h0 a "java/lang/String" "value" "[B" .null) (Fc : Fld Z h0 a "java/lang/String" "coder" "B" (.int (0 : Int32))) (Ea : Exa Z h0 a "java/lang/String") (ga : n0 ≤ a) (Vb : Arv Z h0 b kc .char (0 : Int32) [] (.int (0 : Int32))) :
    MetFree l (⟨"java/lang/String", "<init>", "([C)V"⟩ : MethodName) (head1 (Jvm.Cond.code (⟨"java/lang/String", "<init>", "([C)V"⟩ : MethodName) jdk_42_method_3_code 2 none :: ws) ({ frames := 2, cells := 2, slots := 4, locals := 29 } : Room)) (fun aa U => aa = #[(.ref a), (.ref b)] ∧ Z.Warmed39 U.vm ∧ U.heap = h0 ∧ CHv Z own_EL U.vm h0) (fun _ _ _ _ _ => True) (fun _ U o U' => ∃ v L, o = .returned v ∧ QrmS1 Z a b kc h0 n0 v U'.heap L ∧ CHr Z own_EL U.vm U.heap U'.vm U'.heap ∧ ReturnedEndW U o U' L ({ frames := 2, cells := 2, slots := 4, locals := 29 } : Room).cells ({ frames := 2, cells := 2, slots := 4, locals := 29 } : Room).slots) := by
  refine MetFree.of_bodySF (plainFor_of_name pn_0) hisR ?_
  intro p e s m args below meth c s₁ Bd hml0 hP hK
  obtain ⟨rfl, hZ, hh, hC0⟩ := hP
  have hx := Bd.exec
  have hlk : meth.locks = false := by first | exact BodyLoose.notSynchronized Bd | exact Body.notSynchronized Bd
  have hby := Bd.bytes
  have hml : c.maxLocals = 2 := hml0
  have hown : s.vm.findClass "java/lang/String" = some m.cls := findClass_of_methodNamed Bd.named
  have hnm := (name_of_methodNamed Bd.named Bd.method).1
  have X0 : Stand p l e ({ frames := 2, cells := 2, slots := 4, locals := 29 } : Room) (s.setVm s.vm) m #[(.ref a), (.ref b)] below meth c s₁ [] 0 0 := Stand.of_body Bd
  have e0 : s₁.heap = h0 := by rw [← hh, Bd.state]; rfl
  have N0 := Fr.nil n0
  have hEL : EW Z a0 own_EL := EW.cons (hw _ (List.mem_of_getElem? (i := 27) rfl)) (by decide) EW.nil
  have hS0 : s.Since s.vm 0 := (State.WarmedH.refl s).since 0
  have hk0 : 0 ≤ h0.size := Nat.zero_le _
  have R0 : CHr Z own_EL s.vm h0 s.vm h0 := CHr.refl hC0
  show Done p e below (PrmS1 s Z a b kc h0 n0) (s₁.setTop (entryFrame m #[(.ref a), (.ref b)] 2))
  refine Done.st (B := s₁.setTop (mkF m 0 #[.val (.ref a), .val (.ref b)] [])) (fun _ k => castTop (ef_rmS1 m a b) k) ?_
  refine Done.st (B := s₁.setTop (mkF m 1 #[.val (.ref a), .val (.ref b)] [(.ref a)])) (fun _ k => XS.aloadN X0.here hx rfl (hb hby d4_0) rfl rfl k) ?_
  refine Done.st (B := s₁.setTop (mkF m 2 #[.val (.ref a), .val (.ref b)] [(.ref b), (.ref a)])) (fun _ k => XS.aloadN X0.here hx rfl (hb hby d4_1) rfl rfl k) ?_
  refine Done.st (B := s₁.setTop (mkF m 3 #[.val (.ref a), .val (.ref b)] [(.int (0 : Int32)), (.ref b), (.ref a)])) (fun _ k => XS.iconst X0.here hx rfl (hb hby d4_2) k) ?_
  refine Done.st (B := s₁.setTop (mkF m 4 #[.val (.ref a), .val (.ref b)] [(.ref b), (.int (0 : Int32)), (.ref b), (.ref a)])) (fun _ k => XS.aloadN X0.here hx rfl (hb hby d4_3) rfl rfl k) ?_
  obtain ⟨cl1, Ar1, q1, S1, M1, -⟩ := id Vb
  refine Done.st (B := s₁.setTop (mkF m 5 #[.val (.ref a), .val (.ref b)] [(.int (0 : Int32)), (.int (0 : Int32)), (.ref b), (.ref a)])) (fun _ k => X0.arraylength hx (by rw [e0]; exact Ar1.1) (State.isArrayOf_alike hZ.alike Ar1.2.1) (g := (mkF m 4 #[.val (.ref a), .val (.ref b)] [(.ref b), (.int (0 : Int32)), (.ref b), (.ref a)])) rfl rfl (hb hby d4_4) _ (by rw [len_of S1 M1]; exact k)) ?_
  refine Done.st (B := s₁.setTop (mkF m 6 #[.val (.ref a), .val (.ref b)] [.null, (.int (0 : Int32)), (.int (0 : Int32)), (.ref b), (.ref a)])) (fun _ k => XS.aconstNull X0.here hx rfl (hb hby d4_5) k) ?_
  obtain ⟨_, _, ⟨T2, L2, k2, n2⟩, -, X2, hs2, hg2, ⟨Lc2, hQ2, l2, y2, z2, cr2⟩, st2⟩ := X0.specialBackS hx (y := (⟨"java/lang/String", "<init>", "([CIILjava/lang/Void;)V"⟩ : MethodName)) rfl hown (mvT hZ (hw _ (List.mem_of_getElem? (i := 20) rfl))) (mvT hZ (hw _ (List.mem_of_getElem? (i := 21) rfl))) (mvT hZ (hw _ (List.mem_of_getElem? (i := 23) rfl))) (by decide) (backOfSH (W := 0) (rmS5 l Z a0 hw [] a b h0 n0 Z0 Fv Fc Ea ga) hZ (hw _ (List.mem_of_getElem? (i := 23) rfl)) (hw _ (List.mem_of_getElem? (i := 15) rfl)) (by decide) (by decide) hEL hC0) (g := (mkF m 6 #[.val (.ref a), .val (.ref b)] [.null, (.int (0 : Int32)), (.int (0 : Int32)), (.ref b), (.ref a)])) rfl (by rw [hml]; rfl) (Steps.refl _) (a := a) (argsL := [(.ref b), (.int (0 : Int32)), (.int (0 : Int32)), .null]) (rest := []) (lenOf pd_0 rfl) rfl (by show 2 * 0 + _ ≤ _; exact Nat.le_of_eq rfl) (hb hby d4_6) (fun _ _ => ⟨rfl, e0, (by decide : 0 + 2 ≤ _), (by decide : 0 + 4 ≤ _)⟩)
  dsimp only [Pt.U, Pt.locs, Pt.cells, Pt.slots] at X2 l2 y2 z2 st2 hQ2 hs2 hg2 cr2
  subst l2 y2 z2
  obtain ⟨X2, hS2, hZ, hown⟩ := rebS hS0 (by rw [e0]; exact hk0) X2 hs2 hg2 hZ hown
  have R2 := R0.trans cr2
  have C2 := cr2.1
  have hk2 := Nat.le_refl T2.heap.size
  obtain ⟨rfl, N2q, K2, f2_0⟩ := hQ2
  have N2 := Fr.app N0 N2q
  have Z2 : n0 ≤ T2.heap.size := Nat.le_trans Z0 K2.1
  have KK2 : Keep h0 T2.heap [a] := ((Keep.refl h0 [a])).trans K2 (allS (Or.inl (List.mem_of_getElem? (i := 0) rfl)) all0)
  refine Done.st (B := T2.setTop (mkF m 9 #[.val (.ref a), .val (.ref b)] [])) (fun _ k => st2.trans k) ?_
  obtain ⟨fs, hr, hrun, hended, hWW⟩ := X2.leaveW hS2 hk2 (v := none) (hlocks := hlk) (fun _ => rfl)
  refine Done.fin (X2.returnOut hx Bd.returns (hb hby d4_9) hr) hrun hended ⟨_, _, rfl, ?_, ?_, hWW.1, hWW.2.1, hWW.2.2.1, hWW.2.2.2.mono (by decide) (by decide)⟩
  rotate_left
  · show CHr Z own_EL s.vm s.heap T2.vm T2.heap
    rw [hh]
    exact R2.trans (CHv.at X2 hZ hEL C2)
  show QrmS1 Z a b kc h0 n0 _ T2.heap _
  exact ⟨rfl, N2, KK2, f2_0⟩
theorem ef_rmhi (m : MethodId) (q : Int64) : entryFrame m #[(.long q)] 2 = mkF m 0 #[.val (.long q), .second] [] := by first | (simp [entryFrame, mkF, argsToLocals, Value.category]; done) | rfl
def Qrmhi (Z : State) (q : Int64) (h0 : Heap) (n0 : Nat) (v : Option Value) (h : Heap) (L : List Loc) : Prop := v = some (.int (((q.toUInt64 >>> ((32 : Int32) &&& 0x3f).toInt64.toUInt64).toInt64).toInt32)) ∧ Fr n0 L ∧ h = h0
def Prmhi (s : State) (Z : State) (q : Int64) (h0 : Heap) (n0 : Nat) : State → Outcome → Prop := fun U' o => ∃ v L, o = .returned v ∧ Qrmhi Z q h0 n0 v U'.heap L ∧ FrameEnd s o U' L ({ frames := 0, cells := 0, slots := 0, locals := 0 } : Room).cells ({ frames := 0, cells := 0, slots := 0, locals := 0 } : Room).slots
set_option maxRecDepth 65536 in
set_option maxHeartbeats 40000000 in
theorem rmhi (l : Launch) (Z : State) (a0 : Array Value) (hw : ∀ d ∈ tables_1, d.before a0 Z = true) (ws : List Jvm.Cond) (q : Int64) (h0 : Heap) (n0 : Nat) (Z0 : n0 ≤ h0.size) :
    MetFree l (⟨"com/example/nameward/nameward/model/ClaimsRecordEqualsPinLaw", "hi", "(J)I"⟩ : MethodName) (head1 (Jvm.Cond.code (⟨"com/example/nameward/nameward/model/ClaimsRecordEqualsPinLaw", "hi", "(J)I"⟩ : MethodName) method_4_code 2 (some .int) :: ws) ({ frames := 0, cells := 0, slots := 0, locals := 0 } : Room)) (fun aa U => aa = #[(.long q)] ∧ Z.Warmed39 U.vm ∧ U.heap = h0) (fun _ _ _ _ _ => True) (fun _ U o U' => ∃ v L, o = .returned v ∧ Qrmhi Z q h0 n0 v U'.heap L ∧ FrameEnd U o U' L ({ frames := 0, cells := 0, slots := 0, locals := 0 } : Room).cells ({ frames := 0, cells := 0, slots := 0, locals := 0 } : Room).slots) := by
  refine MetFree.of_bodySF (plainFor_of_name pn_1) hisR ?_
  intro p e s m args below meth c s₁ Bd hml0 hP hK
  obtain ⟨rfl, hZ, hh⟩ := hP
  have hx := Bd.exec
  have hlk : meth.locks = false := by first | exact BodyLoose.notSynchronized Bd | exact Body.notSynchronized Bd
  have hby := Bd.bytes
  have hml : c.maxLocals = 2 := hml0
  have hown : s.vm.findClass "com/example/nameward/nameward/model/ClaimsRecordEqualsPinLaw" = some m.cls := findClass_of_methodNamed Bd.named
  have hnm := (name_of_methodNamed Bd.named Bd.method).1
  have X0 : Stand p l e ({ frames := 0, cells := 0, slots := 0, locals := 0 } : Room) s m #[(.long q)] below meth c s₁ [] 0 0 := Stand.of_body Bd
  have e0 : s₁.heap = h0 := by rw [← hh, Bd.state]; rfl
  have N0 := Fr.nil n0
  show Done p e below (Prmhi s Z q h0 n0) (s₁.setTop (entryFrame m #[(.long q)] 2))
  refine Done.st (B := s₁.setTop (mkF m 0 #[.val (.long q), .second] [])) (fun _ k => castTop (ef_rmhi m q) k) ?_
  refine Done.st (B := s₁.setTop (mkF m 1 #[.val (.long q), .second] [(.long q)])) (fun _ k => XS.lloadN X0.here hx rfl (hb hby d1_0) rfl k) ?_
  refine Done.st (B := s₁.setTop (mkF m 3 #[.val (.long q), .second] [(.int (32 : Int32)), (.long q)])) (fun _ k => XS.bipush X0.here hx rfl (hb hby d1_1) k) ?_
  refine Done.st (B := s₁.setTop (mkF m 4 #[.val (.long q), .second] [(.long ((q.toUInt64 >>> ((32 : Int32) &&& 0x3f).toInt64.toUInt64).toInt64))])) (fun _ k => XS.lushr X0.here hx rfl (hb hby d1_3) rfl k) ?_
  refine Done.st (B := s₁.setTop (mkF m 5 #[.val (.long q), .second] [(.int (((q.toUInt64 >>> ((32 : Int32) &&& 0x3f).toInt64.toUInt64).toInt64).toInt32))])) (fun _ k => XS.l2i X0.here hx rfl (hb hby d1_4) rfl k) ?_
  obtain ⟨fs, hr, hrun, hended, hW, hsame⟩ := X0.leave (v := some (.int (((q.toUInt64 >>> ((32 : Int32) &&& 0x3f).toInt64.toUInt64).toInt64).toInt32))) (hlocks := hlk) (fun h => by rw [Bd.returns] at h; cases h)
  refine Done.fin (retI X0 hx Bd.returns (hb hby d1_5) hr) hrun hended ⟨_, _, rfl, ?_, ⟨_, rfl⟩, hW, hsame.mono (by decide) (by decide)⟩
  show Qrmhi Z q h0 n0 _ s₁.heap _
  rw [e0]
  exact ⟨rfl, N0, rfl⟩
theorem ef_rmlo (m : MethodId) (q : Int64) : entryFrame m #[(.long q)] 2 = mkF m 0 #[.val (.long q), .second] [] := by first | (simp [entryFrame, mkF, argsToLocals, Value.category]; done) | rfl
def Qrmlo (Z : State) (q : Int64) (h0 : Heap) (n0 : Nat) (v : Option Value) (h : Heap) (L : List Loc) : Prop := v = some (.int (q.toInt32)) ∧ Fr n0 L ∧ h = h0
def Prmlo (s : State) (Z : State) (q : Int64) (h0 : Heap) (n0 : Nat) : State → Outcome → Prop := fun U' o => ∃ v L, o = .returned v ∧ Qrmlo Z q h0 n0 v U'.heap L ∧ FrameEnd s o U' L ({ frames := 0, cells := 0, slots := 0, locals := 0 } : Room).cells ({ frames := 0, cells := 0, slots := 0, locals := 0 } : Room).slots
set_option maxRecDepth 65536 in
set_option maxHeartbeats 40000000 in
theorem rmlo (l : Launch) (Z : State) (a0 : Array Value) (hw : ∀ d ∈ tables_1, d.before a0 Z = true) (ws : List Jvm.Cond) (q : Int64) (h0 : Heap) (n0 : Nat) (Z0 : n0 ≤ h0.size) :
    MetFree l (⟨"com/example/nameward/nameward/model/ClaimsRecordEqualsPinLaw", "lo", "(J)I"⟩ : MethodName) (head1 (Jvm.Cond.code (⟨"com/example/nameward/nameward/model/ClaimsRecordEqualsPinLaw", "lo", "(J)I"⟩ : MethodName) method_5_code 2 (some .int) :: ws) ({ frames := 0, cells := 0, slots := 0, locals := 0 } : Room)) (fun aa U => aa = #[(.long q)] ∧ Z.Warmed39 U.vm ∧ U.heap = h0) (fun _ _ _ _ _ => True) (fun _ U o U' => ∃ v L, o = .returned v ∧ Qrmlo Z q h0 n0 v U'.heap L ∧ FrameEnd U o U' L ({ frames := 0, cells := 0, slots := 0, locals := 0 } : Room).cells ({ frames := 0, cells := 0, slots := 0, locals := 0 } : Room).slots) := by
  refine MetFree.of_bodySF (plainFor_of_name pn_1) hisR ?_
  intro p e s m args below meth c s₁ Bd hml0 hP hK
  obtain ⟨rfl, hZ, hh⟩ := hP
  have hx := Bd.exec
  have hlk : meth.locks = false := by first | exact BodyLoose.notSynchronized Bd | exact Body.notSynchronized Bd
  have hby := Bd.bytes
  have hml : c.maxLocals = 2 := hml0
  have hown : s.vm.findClass "com/example/nameward/nameward/model/ClaimsRecordEqualsPinLaw" = some m.cls := findClass_of_methodNamed Bd.named
  have hnm := (name_of_methodNamed Bd.named Bd.method).1
  have X0 : Stand p l e ({ frames := 0, cells := 0, slots := 0, locals := 0 } : Room) s m #[(.long q)] below meth c s₁ [] 0 0 := Stand.of_body Bd
  have e0 : s₁.heap = h0 := by rw [← hh, Bd.state]; rfl
  have N0 := Fr.nil n0
  show Done p e below (Prmlo s Z q h0 n0) (s₁.setTop (entryFrame m #[(.long q)] 2))
  refine Done.st (B := s₁.setTop (mkF m 0 #[.val (.long q), .second] [])) (fun _ k => castTop (ef_rmlo m q) k) ?_
  refine Done.st (B := s₁.setTop (mkF m 1 #[.val (.long q), .second] [(.long q)])) (fun _ k => XS.lloadN X0.here hx rfl (hb hby d2_0) rfl k) ?_
  refine Done.st (B := s₁.setTop (mkF m 2 #[.val (.long q), .second] [(.int (q.toInt32))])) (fun _ k => XS.l2i X0.here hx rfl (hb hby d2_1) rfl k) ?_
  obtain ⟨fs, hr, hrun, hended, hW, hsame⟩ := X0.leave (v := some (.int (q.toInt32))) (hlocks := hlk) (fun h => by rw [Bd.returns] at h; cases h)
  refine Done.fin (retI X0 hx Bd.returns (hb hby d2_2) hr) hrun hended ⟨_, _, rfl, ?_, ⟨_, rfl⟩, hW, hsame.mono (by decide) (by decide)⟩
  show Qrmlo Z q h0 n0 _ s₁.heap _
  rw [e0]
  exact ⟨rfl, N0, rfl⟩
theorem ef_rmCE (m : MethodId) (q : Int32) : entryFrame m #[(.int q)] 1 = mkF m 0 #[.val (.int q)] [] := by first | (simp [entryFrame, mkF, argsToLocals, Value.category]; done) | rfl
def QrmCE (Z : State) (q : Int32) (h0 : Heap) (n0 : Nat) (v : Option Value) (h : Heap) (L : List Loc) : Prop := v = some (.int 1) ∧ Fr n0 L ∧ h = h0
def PrmCE (s : State) (Z : State) (q : Int32) (h0 : Heap) (n0 : Nat) : State → Outcome → Prop := fun U' o => ∃ v L, o = .returned v ∧ QrmCE Z q h0 n0 v U'.heap L ∧ FrameEnd s o U' L ({ frames := 0, cells := 0, slots := 0, locals := 0 } : Room).cells ({ frames := 0, cells := 0, slots := 0, locals := 0 } : Room).slots
set_option maxRecDepth 65536 in
set_option maxHeartbeats 40000000 in
theorem rmCE (l : Launch) (Z : State) (a0 : Array Value) (hw : ∀ d ∈ tables_1, d.before a0 Z = true) (ws : List Jvm.Cond) (q : Int32) (h0 : Heap) (n0 : Nat) (Z0 : n0 ≤ h0.size) (hq : ¬ 255 < q) :
    MetFree l (⟨"java/lang/StringLatin1", "canEncode", "(C)Z"⟩ : MethodName) (head1 (Jvm.Cond.code (⟨"java/lang/StringLatin1", "canEncode", "(C)Z"⟩ : MethodName) jdk_43_method_3_code 1 (some .boolean) :: ws) ({ frames := 0, cells := 0, slots := 0, locals := 0 } : Room)) (fun aa U => aa = #[(.int q)] ∧ Z.Warmed39 U.vm ∧ U.heap = h0) (fun _ _ _ _ _ => True) (fun _ U o U' => ∃ v L, o = .returned v ∧ QrmCE Z q h0 n0 v U'.heap L ∧ FrameEnd U o U' L ({ frames := 0, cells := 0, slots := 0, locals := 0 } : Room).cells ({ frames := 0, cells := 0, slots := 0, locals := 0 } : Room).slots) := by
  refine MetFree.of_bodySF (plainFor_of_name pn_2) hisR ?_
  intro p e s m args below meth c s₁ Bd hml0 hP hK
  obtain ⟨rfl, hZ, hh⟩ := hP
  have hx := Bd.exec
  have hlk : meth.locks = false := by first | exact BodyLoose.notSynchronized Bd | exact Body.notSynchronized Bd
  have hby := Bd.bytes
  have hml : c.maxLocals = 1 := hml0
  have hown : s.vm.findClass "java/lang/StringLatin1" = some m.cls := findClass_of_methodNamed Bd.named
  have hnm := (name_of_methodNamed Bd.named Bd.method).1
  have X0 : Stand p l e ({ frames := 0, cells := 0, slots := 0, locals := 0 } : Room) s m #[(.int q)] below meth c s₁ [] 0 0 := Stand.of_body Bd
  have e0 : s₁.heap = h0 := by rw [← hh, Bd.state]; rfl
  have N0 := Fr.nil n0
  show Done p e below (PrmCE s Z q h0 n0) (s₁.setTop (entryFrame m #[(.int q)] 1))
  refine Done.st (B := s₁.setTop (mkF m 0 #[.val (.int q)] [])) (fun _ k => castTop (ef_rmCE m q) k) ?_
  refine Done.st (B := s₁.setTop (mkF m 1 #[.val (.int q)] [(.int q)])) (fun _ k => XS.iloadN X0.here hx rfl (hb hby d11_0) rfl k) ?_
  refine Done.st (B := s₁.setTop (mkF m 4 #[.val (.int q)] [(.int (255 : Int32)), (.int q)])) (fun _ k => XS.sipush X0.here hx rfl (hb hby d11_1) k) ?_
  refine Done.st (B := s₁.setTop (mkF m 7 #[.val (.int q)] [])) (fun _ k => XS.icmpNo X0.here hx rfl (hb hby d11_4) rfl (flt hq).2.2.1 k) ?_
  refine Done.st (B := s₁.setTop (mkF m 8 #[.val (.int q)] [(.int (1 : Int32))])) (fun _ k => XS.iconst X0.here hx rfl (hb hby d11_7) k) ?_
  refine Done.st (B := s₁.setTop (mkF m 12 #[.val (.int q)] [(.int (1 : Int32))])) (fun _ k => XS.goto X0.here hx rfl (pc0 := 8) (pc' := 12) rfl (hb hby d11_8) (by decide) (by decide) k) ?_
  obtain ⟨fs, hr, hrun, hended, hW, hsame⟩ := X0.leave (v := some (.int (1 : Int32))) (hlocks := hlk) (fun h => by rw [Bd.returns] at h; cases h)
  refine Done.fin (retN X0 hx (t := .boolean) Bd.returns (by simp) (hb hby d11_12) hr) hrun hended ⟨_, _, rfl, ?_, ⟨_, rfl⟩, hW, hsame.mono (by decide) (by decide)⟩
  show QrmCE Z q h0 n0 _ s₁.heap _
  rw [e0]
  exact ⟨rfl, N0, rfl⟩
theorem ef_rmTB (m : MethodId) (q : Int32) : entryFrame m #[(.int q)] 1 = mkF m 0 #[.val (.int q)] [] := by first | (simp [entryFrame, mkF, argsToLocals, Value.category]; done) | rfl
def QrmTB (Z : State) (q : Int32) (h0 : Heap) (n0 : Nat) (v : Option Value) (h : Heap) (L : List Loc) : Prop := ∃ (b : Addr) (kb : ClassId), v = some (.ref b) ∧ Fr n0 L ∧ h0.size ≤ b ∧ Keep h0 h [] ∧ Arv Z h b kb .byte (1 : Int32) [(.int (nar .byte (q.toInt8.toInt32)))] (.int (0 : Int32))
def PrmTB (s : State) (Z : State) (q : Int32) (h0 : Heap) (n0 : Nat) : State → Outcome → Prop := fun U' o => ∃ v L, o = .returned v ∧ QrmTB Z q h0 n0 v U'.heap L ∧ FrameEnd s o U' L ({ frames := 0, cells := 1, slots := 1, locals := 0 } : Room).cells ({ frames := 0, cells := 1, slots := 1, locals := 0 } : Room).slots
set_option maxRecDepth 65536 in
set_option maxHeartbeats 40000000 in
theorem rmTB (l : Launch) (Z : State) (a0 : Array Value) (hw : ∀ d ∈ tables_1, d.before a0 Z = true) (ws : List Jvm.Cond) (q : Int32) (h0 : Heap) (n0 : Nat) (Z0 : n0 ≤ h0.size) :
    MetFree l (⟨"java/lang/StringLatin1", "toBytes", "(C)[B"⟩ : MethodName) (head1 (Jvm.Cond.code (⟨"java/lang/StringLatin1", "toBytes", "(C)[B"⟩ : MethodName) jdk_43_method_46_code 1 (some (.array .byte)) :: ws) ({ frames := 0, cells := 1, slots := 1, locals := 0 } : Room)) (fun aa U => aa = #[(.int q)] ∧ Z.Warmed39 U.vm ∧ U.heap = h0) (fun _ _ _ _ _ => True) (fun _ U o U' => ∃ v L, o = .returned v ∧ QrmTB Z q h0 n0 v U'.heap L ∧ FrameEnd U o U' L ({ frames := 0, cells := 1, slots := 1, locals := 0 } : Room).cells ({ frames := 0, cells := 1, slots := 1, locals := 0 } : Room).slots) := by
  refine MetFree.of_bodySF (plainFor_of_name pn_2) hisR ?_
  intro p e s m args below meth c s₁ Bd hml0 hP hK
  obtain ⟨rfl, hZ, hh⟩ := hP
  have hx := Bd.exec
  have hlk : meth.locks = false := by first | exact BodyLoose.notSynchronized Bd | exact Body.notSynchronized Bd
  have hby := Bd.bytes
  have hml : c.maxLocals = 1 := hml0
  have hown : s.vm.findClass "java/lang/StringLatin1" = some m.cls := findClass_of_methodNamed Bd.named
  have hnm := (name_of_methodNamed Bd.named Bd.method).1
  have X0 : Stand p l e ({ frames := 0, cells := 1, slots := 1, locals := 0 } : Room) s m #[(.int q)] below meth c s₁ [] 0 0 := Stand.of_body Bd
  have e0 : s₁.heap = h0 := by rw [← hh, Bd.state]; rfl
  have N0 := Fr.nil n0
  show Done p e below (PrmTB s Z q h0 n0) (s₁.setTop (entryFrame m #[(.int q)] 1))
  refine Done.st (B := s₁.setTop (mkF m 0 #[.val (.int q)] [])) (fun _ k => castTop (ef_rmTB m q) k) ?_
  refine Done.st (B := s₁.setTop (mkF m 1 #[.val (.int q)] [(.int (1 : Int32))])) (fun _ k => XS.iconst X0.here hx rfl (hb hby d12_0) k) ?_
  obtain ⟨T1, h1, k1, X1, e1, E1, A1, st1⟩ := newP X0 hx hZ (hw _ (List.mem_of_getElem? (i := 28) rfl)) e0 (g := (mkF m 1 #[.val (.int q)] [(.int (1 : Int32))])) rfl (hb hby d12_1) rfl (by decide) (cap := 1) (by decide) (by decide) (by decide) (by decide)
  obtain ⟨b1, g1⟩ : ∃ z, z = h0.size := ⟨_, rfl⟩
  rw [← g1] at A1 st1
  have ge_b1 : n0 ≤ b1 := Nat.le_trans Z0 (Nat.le_of_eq g1.symm)
  have sz_b1 : h0.size ≤ b1 := Nat.le_trans ((Keep.refl h0 [])).1 (Nat.le_of_eq g1.symm)
  have Z1 : n0 ≤ h1.size := Nat.le_trans Z0 E1.1
  have V1 : Arv Z h1 b1 k1 .byte (1 : Int32) [(.int (0 : Int32))] (.int (0 : Int32)) := (Arv.new A1 (by decide)).pad (pad_rep [] (.int (0 : Int32)) 1)
  have KK1 : Keep h0 h1 [] := ((Keep.refl h0 [])).ext E1
  refine Done.st (B := T1.setTop (mkF m 3 #[.val (.int q)] [(.ref b1)])) (fun _ k => st1 _ k) ?_
  refine Done.st (B := T1.setTop (mkF m 4 #[.val (.int q)] [(.ref b1), (.ref b1)])) (fun _ k => XS.dup X1.here hx rfl (hb hby d12_3) rfl rfl k) ?_
  refine Done.st (B := T1.setTop (mkF m 5 #[.val (.int q)] [(.int (0 : Int32)), (.ref b1), (.ref b1)])) (fun _ k => XS.iconst X1.here hx rfl (hb hby d12_4) k) ?_
  refine Done.st (B := T1.setTop (mkF m 6 #[.val (.int q)] [(.int q), (.int (0 : Int32)), (.ref b1), (.ref b1)])) (fun _ k => XS.iloadN X1.here hx rfl (hb hby d12_5) rfl k) ?_
  refine Done.st (B := T1.setTop (mkF m 7 #[.val (.int q)] [(.int (q.toInt8.toInt32)), (.int (0 : Int32)), (.ref b1), (.ref b1)])) (fun _ k => XS.i2b X1.here hx rfl (hb hby d12_6) rfl k) ?_
  obtain ⟨cl2, Ar2, q2, S2, M2, H2, G2⟩ := id V1
  have hin2 : ¬ ((0 : Int32) < 0 ∨ cl2.slots.size ≤ ((0 : Int32)).toNatClampNeg) := inb_of S2 ⟨by decide, by decide⟩
  obtain ⟨T2, h2, X2, e2, W2, st2⟩ := stB X1 hx hZ e1 Ar2 (j := (0 : Int32)) hin2 (g := (mkF m 7 #[.val (.int q)] [(.int (q.toInt8.toInt32)), (.int (0 : Int32)), (.ref b1), (.ref b1)])) rfl rfl (hb hby d12_7)
  have V2 : Arv Z h2 b1 k1 .byte (1 : Int32) [(.int (nar .byte (q.toInt8.toInt32)))] (.int (0 : Int32)) := Arv.set Ar2 q2 S2 M2 H2 G2 (fits_nar_byte _) W2 0 rfl (Nat.le_of_ble_eq_true rfl)
  have N2 := Fr.snoc X2 N0 ge_b1
  have Z2 : n0 ≤ h2.size := Nat.le_trans Z1 (Keep.of_wr W2).1
  have KK2 : Keep h0 h2 [] := (KK1).wr W2 (Or.inr sz_b1)
  refine Done.st (B := T2.setTop (mkF m 8 #[.val (.int q)] [(.ref b1)])) (fun _ k => st2 _ k) ?_
  obtain ⟨fs, hr, hrun, hended, hW, hsame⟩ := X2.leave (v := some (.ref b1)) (hlocks := hlk) (fun h => by rw [Bd.returns] at h; cases h)
  refine Done.fin (retR X2 hx Bd.returns rfl rfl (hb hby d12_8) hr) hrun hended ⟨_, _, rfl, ?_, ⟨_, rfl⟩, hW, hsame.mono (by decide) (by decide)⟩
  show QrmTB Z q h0 n0 _ T2.heap _
  rw [e2]
  exact ⟨b1, _, rfl, N2, sz_b1, KK2, V2⟩
theorem ef_rmSI (m : MethodId) (a : Addr) (t : Addr) : entryFrame m #[(.ref a), (.ref t), (.int (0 : Int32))] 3 = mkF m 0 #[.val (.ref a), .val (.ref t), .val (.int (0 : Int32))] [] := by first | (simp [entryFrame, mkF, argsToLocals, Value.category]; done) | rfl
def QrmSI (Z : State) (a : Addr) (t : Addr) (h0 : Heap) (n0 : Nat) (v : Option Value) (h : Heap) (L : List Loc) : Prop := v = none ∧ Fr n0 L ∧ Keep h0 h [a] ∧ Exa Z h a "java/lang/String" ∧ Fld Z h a "java/lang/String" "value" "[B" (.ref t) ∧ Fld Z h a "java/lang/String" "coder" "B" (.int (0 : Int32))
def PrmSI (s : State) (Z : State) (a : Addr) (t : Addr) (h0 : Heap) (n0 : Nat) : State → Outcome → Prop := fun U' o => ∃ v L, o = .returned v ∧ QrmSI Z a t h0 n0 v U'.heap L ∧ FrameEnd s o U' L ({ frames := 1, cells := 0, slots := 0, locals := 12 } : Room).cells ({ frames := 1, cells := 0, slots := 0, locals := 12 } : Room).slots
set_option maxRecDepth 65536 in
set_option maxHeartbeats 40000000 in
theorem rmSI (l : Launch) (Z : State) (a0 : Array Value) (hw : ∀ d ∈ tables_1, d.before a0 Z = true) (ws : List Jvm.Cond) (a : Addr) (t : Addr) (h0 : Heap) (n0 : Nat) (Z0 : n0 ≤ h0.size) (Fv : Fld Z h0 a "java/lang/String" "value" "[B" .null) (Fc : Fld Z h0 a "java/lang/String" "coder" "B" (.int (0 : Int32))) (Ea : Exa Z h0 a "java/lang/String") (ga : n0 ≤ a) :
    MetFree l (⟨"java/lang/String", "<init>", "([BB)V"⟩ : MethodName) (head1 (Jvm.Cond.code (⟨"java/lang/String", "<init>", "([BB)V"⟩ : MethodName) jdk_42_method_151_code 3 none :: ws) ({ frames := 1, cells := 0, slots := 0, locals := 12 } : Room)) (fun aa U => aa = #[(.ref a), (.ref t), (.int (0 : Int32))] ∧ Z.Warmed39 U.vm ∧ U.heap = h0) (fun _ _ _ _ _ => True) (fun _ U o U' => ∃ v L, o = .returned v ∧ QrmSI Z a t h0 n0 v U'.heap L ∧ FrameEnd U o U' L ({ frames := 1, cells := 0, slots := 0, locals := 12 } : Room).cells ({ frames := 1, cells := 0, slots := 0, locals := 12 } : Room).slots) := by
  refine MetFree.of_bodySF (plainFor_of_name pn_0) hisR ?_
  intro p e s m args below meth c s₁ Bd hml0 hP hK
  obtain ⟨rfl, hZ, hh⟩ := hP
  have hx := Bd.exec
  have hlk : meth.locks = false := by first | exact BodyLoose.notSynchronized Bd | exact Body.notSynchronized Bd
  have hby := Bd.bytes
  have hml : c.maxLocals = 3 := hml0
  have hown : s.vm.findClass "java/lang/String" = some m.cls := findClass_of_methodNamed Bd.named
  have hnm := (name_of_methodNamed Bd.named Bd.method).1
  have X0 : Stand p l e ({ frames := 1, cells := 0, slots := 0, locals := 12 } : Room) s m #[(.ref a), (.ref t), (.int (0 : Int32))] below meth c s₁ [] 0 0 := Stand.of_body Bd
  have e0 : s₁.heap = h0 := by rw [← hh, Bd.state]; rfl
  have N0 := Fr.nil n0
  show Done p e below (PrmSI s Z a t h0 n0) (s₁.setTop (entryFrame m #[(.ref a), (.ref t), (.int (0 : Int32))] 3))
  refine Done.st (B := s₁.setTop (mkF m 0 #[.val (.ref a), .val (.ref t), .val (.int (0 : Int32))] [])) (fun _ k => castTop (ef_rmSI m a t) k) ?_
  refine Done.st (B := s₁.setTop (mkF m 1 #[.val (.ref a), .val (.ref t), .val (.int (0 : Int32))] [(.ref a)])) (fun _ k => XS.aloadN X0.here hx rfl (hb hby d13_0) rfl rfl k) ?_
  obtain ⟨T1, X1, e1, st1⟩ := initO X0 hx hZ hown (hw _ (List.mem_of_getElem? (i := 24) rfl)) (hw _ (List.mem_of_getElem? (i := 25) rfl)) (hw _ (List.mem_of_getElem? (i := 26) rfl)) e0 (g := (mkF m 1 #[.val (.ref a), .val (.ref t), .val (.int (0 : Int32))] [(.ref a)])) rfl (by rw [hml]; rfl) rfl (hb hby d13_1) (by decide) (W := 0) (by show 2 * 0 + _ ≤ _; exact Nat.le_of_eq rfl) (by decide)
  refine Done.st (B := T1.setTop (mkF m 4 #[.val (.ref a), .val (.ref t), .val (.int (0 : Int32))] [])) (fun _ k => st1 _ k) ?_
  refine Done.st (B := T1.setTop (mkF m 5 #[.val (.ref a), .val (.ref t), .val (.int (0 : Int32))] [(.ref a)])) (fun _ k => XS.aloadN X1.here hx rfl (hb hby d13_4) rfl rfl k) ?_
  refine Done.st (B := T1.setTop (mkF m 6 #[.val (.ref a), .val (.ref t), .val (.int (0 : Int32))] [(.ref t), (.ref a)])) (fun _ k => XS.aloadN X1.here hx rfl (hb hby d13_5) rfl rfl k) ?_
  obtain ⟨T2, h2, X2, e2, W2, st2⟩ := putF X1 hx hZ hown (host := "") (Or.inl (hw _ (List.mem_of_getElem? (i := 33) rfl))) Via.refl e1 Fv Ea (Or.inr ⟨(hw _ (List.mem_of_getElem? (i := 29) rfl)), rfl, hnm⟩) (hw _ (List.mem_of_getElem? (i := 14) rfl)) (ty := (.array .byte)) (by decide) rfl rfl (g := (mkF m 6 #[.val (.ref a), .val (.ref t), .val (.int (0 : Int32))] [(.ref t), (.ref a)])) rfl rfl (hb hby d13_6)
  have F2 := Fld.same W2 Fv
  have N2 := Fr.snoc X2 N0 ga
  have Z2 : n0 ≤ h2.size := Nat.le_trans Z0 (Keep.of_wr W2).1
  have KK2 : Keep h0 h2 [a] := ((Keep.refl h0 [a])).wr W2 (Or.inl (List.mem_of_getElem? (i := 0) rfl))
  refine Done.st (B := T2.setTop (mkF m 9 #[.val (.ref a), .val (.ref t), .val (.int (0 : Int32))] [])) (fun _ k => st2 _ k) ?_
  refine Done.st (B := T2.setTop (mkF m 10 #[.val (.ref a), .val (.ref t), .val (.int (0 : Int32))] [(.ref a)])) (fun _ k => XS.aloadN X2.here hx rfl (hb hby d13_9) rfl rfl k) ?_
  refine Done.st (B := T2.setTop (mkF m 11 #[.val (.ref a), .val (.ref t), .val (.int (0 : Int32))] [(.int (0 : Int32)), (.ref a)])) (fun _ k => XS.iloadN X2.here hx rfl (hb hby d13_10) rfl k) ?_
  have c3 := (Exa.wr W2 Ea)
  have c4 := (Fld.other W2 Fc (Or.inr (slot_ne (Or.inr (hw _ (List.mem_of_getElem? (i := 30) rfl))) (Or.inr (hw _ (List.mem_of_getElem? (i := 29) rfl))) (by decide) (t := .byte) (t' := (.array .byte)) (by decide) (by decide))))
  obtain ⟨T5, h5, X5, e5, W5, st5⟩ := putFN X2 hx hZ hown (hw _ (List.mem_of_getElem? (i := 34) rfl)) Via.refl e2 c4 c3 (Or.inr ⟨(hw _ (List.mem_of_getElem? (i := 30) rfl)), rfl, hnm⟩) (hw _ (List.mem_of_getElem? (i := 14) rfl)) (ty := .byte) (v' := (.int (0 : Int32))) (by decide) rfl rfl (g := (mkF m 11 #[.val (.ref a), .val (.ref t), .val (.int (0 : Int32))] [(.int (0 : Int32)), (.ref a)])) rfl rfl (hb hby d13_11)
  have F5 := Fld.same W5 c4
  have N5 := Fr.snoc X5 N2 ga
  have Z5 : n0 ≤ h5.size := Nat.le_trans Z2 (Keep.of_wr W5).1
  have KK5 : Keep h0 h5 [a] := (KK2).wr W5 (Or.inl (List.mem_of_getElem? (i := 0) rfl))
  refine Done.st (B := T5.setTop (mkF m 14 #[.val (.ref a), .val (.ref t), .val (.int (0 : Int32))] [])) (fun _ k => st5 _ k) ?_
  obtain ⟨fs, hr, hrun, hended, hW, hsame⟩ := X5.leave (v := none) (hlocks := hlk) (fun _ => rfl)
  have c7 := (Exa.wr W5 c3)
  have c8 := (Fld.other W5 F2 (Or.inr (slot_ne (Or.inr (hw _ (List.mem_of_getElem? (i := 29) rfl))) (Or.inr (hw _ (List.mem_of_getElem? (i := 30) rfl))) (by decide) (t := (.array .byte)) (t' := .byte) (by decide) (by decide))))
  refine Done.fin (X5.returnOut hx Bd.returns (hb hby d13_14) hr) hrun hended ⟨_, _, rfl, ?_, ⟨_, rfl⟩, hW, hsame.mono (by decide) (by decide)⟩
  show QrmSI Z a t h0 n0 _ T5.heap _
  rw [e5]
  exact ⟨rfl, N5, KK5, c7, c8, F5⟩
theorem ef_rmVO (m : MethodId) (q : Int32) : entryFrame m #[(.int q)] 1 = mkF m 0 #[.val (.int q)] [] := by first | (simp [entryFrame, mkF, argsToLocals, Value.category]; done) | rfl
def QrmVO (Z : State) (q : Int32) (z : Int32) (h0 : Heap) (n0 : Nat) (v : Option Value) (h : Heap) (L : List Loc) : Prop := ∃ b : Addr, v = some (.ref b) ∧ Fr n0 L ∧ h0.size ≤ b ∧ Keep h0 h [] ∧ Str Z h b [q]
def PrmVO (s : State) (Z : State) (q : Int32) (z : Int32) (h0 : Heap) (n0 : Nat) : State → Outcome → Prop := fun U' o => ∃ v L, o = .returned v ∧ QrmVO Z q z h0 n0 v U'.heap L ∧ FrameEnd s o U' L ({ frames := 2, cells := 2, slots := 5, locals := 27 } : Room).cells ({ frames := 2, cells := 2, slots := 5, locals := 27 } : Room).slots
set_option maxRecDepth 65536 in
set_option maxHeartbeats 40000000 in
theorem rmVO (l : Launch) (Z : State) (a0 : Array Value) (hw : ∀ d ∈ tables_1, d.before a0 Z = true) (ws : List Jvm.Cond) (q : Int32) (z : Int32) (h0 : Heap) (n0 : Nat) (Z0 : n0 ≤ h0.size) (S_z : Sta Z h0 "java/lang/String" "COMPACT_STRINGS" "Z" (.int z)) (hz : ¬ z = 0) (hq : ¬ q < 0 ∧ ¬ (255 : Int32) < q) :
    MetFree l (⟨"java/lang/String", "valueOf", "(C)Ljava/lang/String;"⟩ : MethodName) (head1 (Jvm.Cond.code (⟨"java/lang/String", "valueOf", "(C)Ljava/lang/String;"⟩ : MethodName) jdk_42_method_139_code 1 (some (.object "java/lang/String")) :: ws) ({ frames := 2, cells := 2, slots := 5, locals := 27 } : Room)) (fun aa U => aa = #[(.int q)] ∧ Z.Warmed39 U.vm ∧ U.heap = h0) (fun _ _ _ _ _ => True) (fun _ U o U' => ∃ v L, o = .returned v ∧ QrmVO Z q z h0 n0 v U'.heap L ∧ FrameEnd U o U' L ({ frames := 2, cells := 2, slots := 5, locals := 27 } : Room).cells ({ frames := 2, cells := 2, slots := 5, locals := 27 } : Room).slots) := by
  refine MetFree.of_bodySF (plainFor_of_name pn_0) hisR ?_
  intro p e s m args below meth c s₁ Bd hml0 hP hK
  obtain ⟨rfl, hZ, hh⟩ := hP
  have hx := Bd.exec
  have hlk : meth.locks = false := by first | exact BodyLoose.notSynchronized Bd | exact Body.notSynchronized Bd
  have hby := Bd.bytes
  have hml : c.maxLocals = 1 := hml0
  have hown : s.vm.findClass "java/lang/String" = some m.cls := findClass_of_methodNamed Bd.named
  have hnm := (name_of_methodNamed Bd.named Bd.method).1
  have X0 : Stand p l e ({ frames := 2, cells := 2, slots := 5, locals := 27 } : Room) s m #[(.int q)] below meth c s₁ [] 0 0 := Stand.of_body Bd
  have e0 : s₁.heap = h0 := by rw [← hh, Bd.state]; rfl
  have N0 := Fr.nil n0
  show Done p e below (PrmVO s Z q z h0 n0) (s₁.setTop (entryFrame m #[(.int q)] 1))
  refine Done.st (B := s₁.setTop (mkF m 0 #[.val (.int q)] [])) (fun _ k => castTop (ef_rmVO m q) k) ?_
  obtain ⟨T1, X1, e1, st1⟩ := getS2 X0 hx hZ hown (host := "") (Or.inl (hw _ (List.mem_of_getElem? (i := 35) rfl))) Via.refl e0 S_z (g := (mkF m 0 #[.val (.int q)] [])) rfl (hb hby d10_0)
  refine Done.st (B := T1.setTop (mkF m 3 #[.val (.int q)] [(.int z)])) (fun _ k => st1 _ k) ?_
  refine Done.st (B := T1.setTop (mkF m 6 #[.val (.int q)] [])) (fun _ k => XS.ifNo X1.here hx rfl (hb hby d10_3) rfl ((if0 _ _).trans (feq hz).1) k) ?_
  refine Done.st (B := T1.setTop (mkF m 7 #[.val (.int q)] [(.int q)])) (fun _ k => XS.iloadN X1.here hx rfl (hb hby d10_6) rfl k) ?_
  obtain ⟨_, _, ⟨T2, L2, k2, n2⟩, -, X2, ⟨Lc2, hQ2, l2, y2, z2⟩, st2⟩ := Jvm.LawKit.callS X1 hx (y := (⟨"java/lang/StringLatin1", "canEncode", "(C)Z"⟩ : MethodName)) hown (mvT hZ (hw _ (List.mem_of_getElem? (i := 49) rfl))) (mvT hZ (hw _ (List.mem_of_getElem? (i := 50) rfl))) (mvT hZ (hw _ (List.mem_of_getElem? (i := 51) rfl))) (mvT hZ (hw _ (List.mem_of_getElem? (i := 52) rfl))) (by decide) (backOf (W := 0) (rmCE l Z a0 hw [] q h0 n0 Z0 hq.2) hZ (hw _ (List.mem_of_getElem? (i := 52) rfl)) (hw _ (List.mem_of_getElem? (i := 51) rfl)) (by decide) (by decide)) (g := (mkF m 7 #[.val (.int q)] [(.int q)])) rfl (by rw [hml]; rfl) (argsL := [(.int q)]) (rest := []) (lenOf pd_1 rfl) rfl (by show 2 * 0 + _ ≤ _; exact Nat.le_of_eq rfl) (hb hby d10_7) (fun _ _ => ⟨rfl, e1, (by decide : 0 + 0 ≤ _), (by decide : 0 + 0 ≤ _)⟩)
  dsimp only [Pt.U, Pt.locs, Pt.cells, Pt.slots] at X2 l2 y2 z2 st2 hQ2
  subst l2 y2 z2
  obtain ⟨rfl, N2q, e2⟩ := hQ2
  have N2 := Fr.app N0 N2q
  refine Done.st (B := T2.setTop (mkF m 10 #[.val (.int q)] [(.int (1 : Int32))])) (fun _ k => st2 _ k) ?_
  refine Done.st (B := T2.setTop (mkF m 13 #[.val (.int q)] [])) (fun _ k => XS.ifNo X2.here hx rfl (hb hby d10_10) rfl ((if0 _ _).trans (feq (by decide : ¬ ((1 : Int32) = (0 : Int32)))).1) k) ?_
  obtain ⟨T3, h3, X3, e3, E3, A3, D3, -, st3⟩ := newO X2 hx hZ hown (hw _ (List.mem_of_getElem? (i := 53) rfl)) (hw _ (List.mem_of_getElem? (i := 14) rfl)) (hw _ (List.mem_of_getElem? (i := 15) rfl)) e2 (g := (mkF m 13 #[.val (.int q)] [])) rfl (hb hby d10_13) (by decide) (by decide)
  obtain ⟨b3, g3⟩ : ∃ z, z = h0.size := ⟨_, rfl⟩
  rw [← g3] at A3 D3 st3
  have ge_b3 : n0 ≤ b3 := Nat.le_trans Z0 (Nat.le_of_eq g3.symm)
  have sz_b3 : h0.size ≤ b3 := Nat.le_trans ((Keep.refl h0 [])).1 (Nat.le_of_eq g3.symm)
  have Z3 : n0 ≤ h3.size := Nat.le_trans Z0 E3.1
  have F3_value : Fld Z h3 b3 "java/lang/String" "value" "[B" .null := D3 (Or.inr (hw _ (List.mem_of_getElem? (i := 29) rfl))) (ty := (.array .byte)) (by decide)
  have F3_coder : Fld Z h3 b3 "java/lang/String" "coder" "B" (.int (0 : Int32)) := D3 (Or.inr (hw _ (List.mem_of_getElem? (i := 30) rfl))) (ty := .byte) (by decide)
  have KK3 : Keep h0 h3 [] := ((Keep.refl h0 [])).ext E3
  refine Done.st (B := T3.setTop (mkF m 16 #[.val (.int q)] [(.ref b3)])) (fun _ k => st3 _ k) ?_
  refine Done.st (B := T3.setTop (mkF m 17 #[.val (.int q)] [(.ref b3), (.ref b3)])) (fun _ k => XS.dup X3.here hx rfl (hb hby d10_16) rfl rfl k) ?_
  refine Done.st (B := T3.setTop (mkF m 18 #[.val (.int q)] [(.int q), (.ref b3), (.ref b3)])) (fun _ k => XS.iloadN X3.here hx rfl (hb hby d10_17) rfl k) ?_
  obtain ⟨_, _, ⟨T4, L4, k4, n4⟩, -, X4, ⟨Lc4, hQ4, l4, y4, z4⟩, st4⟩ := Jvm.LawKit.callS X3 hx (y := (⟨"java/lang/StringLatin1", "toBytes", "(C)[B"⟩ : MethodName)) hown (mvT hZ (hw _ (List.mem_of_getElem? (i := 54) rfl))) (mvT hZ (hw _ (List.mem_of_getElem? (i := 55) rfl))) (mvT hZ (hw _ (List.mem_of_getElem? (i := 51) rfl))) (mvT hZ (hw _ (List.mem_of_getElem? (i := 56) rfl))) (by decide) (backOf (W := 2) (rmTB l Z a0 hw [] q h3 n0 Z3) hZ (hw _ (List.mem_of_getElem? (i := 56) rfl)) (hw _ (List.mem_of_getElem? (i := 51) rfl)) (by decide) (by decide)) (g := (mkF m 18 #[.val (.int q)] [(.int q), (.ref b3), (.ref b3)])) rfl (by rw [hml]; rfl) (argsL := [(.int q)]) (rest := [(.ref b3), (.ref b3)]) (lenOf pd_2 rfl) rfl (by show 2 * 0 + _ ≤ _; exact Nat.le_of_eq rfl) (hb hby d10_18) (fun _ _ => ⟨rfl, e3, (by decide : 1 + 1 ≤ _), (by decide : 4 + 1 ≤ _)⟩)
  dsimp only [Pt.U, Pt.locs, Pt.cells, Pt.slots] at X4 l4 y4 z4 st4 hQ4
  subst l4 y4 z4
  obtain ⟨tb, kb, rfl, N4q, sz4, K4, f4_0⟩ := hQ4
  have N4 := Fr.app N2 N4q
  have ne_b3_tb : b3 ≠ tb := Nat.ne_of_lt (Nat.lt_of_lt_of_le A3.lt sz4)
  have ge_tb : n0 ≤ tb := Nat.le_trans Z3 sz4
  have sz_tb : h0.size ≤ tb := Nat.le_trans (KK3).1 sz4
  have Z4 : n0 ≤ T4.heap.size := Nat.le_trans Z3 K4.1
  have KK4 : Keep h0 T4.heap [] := (KK3).trans K4 all0
  refine Done.st (B := T4.setTop (mkF m 21 #[.val (.int q)] [(.ref tb), (.ref b3), (.ref b3)])) (fun _ k => st4 _ k) ?_
  refine Done.st (B := T4.setTop (mkF m 22 #[.val (.int q)] [(.int (0 : Int32)), (.ref tb), (.ref b3), (.ref b3)])) (fun _ k => XS.iconst X4.here hx rfl (hb hby d10_21) k) ?_
  have c5 := (F3_value.keep K4 nin0)
  have c6 := (F3_coder.keep K4 nin0)
  have c7 := (A3.keep K4)
  obtain ⟨_, _, ⟨T8, L8, k8, n8⟩, -, X8, ⟨Lc8, hQ8, l8, y8, z8⟩, st8⟩ := X4.specialBack hx (y := (⟨"java/lang/String", "<init>", "([BB)V"⟩ : MethodName)) rfl hown (mvT hZ (hw _ (List.mem_of_getElem? (i := 57) rfl))) (mvT hZ (hw _ (List.mem_of_getElem? (i := 58) rfl))) (mvT hZ (hw _ (List.mem_of_getElem? (i := 59) rfl))) (by decide) (backOf (W := 1) (rmSI l Z a0 hw [] b3 tb T4.heap n0 Z4 c5 c6 c7 ge_b3) hZ (hw _ (List.mem_of_getElem? (i := 59) rfl)) (hw _ (List.mem_of_getElem? (i := 15) rfl)) (by decide) (by decide)) (g := (mkF m 22 #[.val (.int q)] [(.int (0 : Int32)), (.ref tb), (.ref b3), (.ref b3)])) rfl (by rw [hml]; rfl) (Steps.refl _) (a := b3) (argsL := [(.ref tb), (.int (0 : Int32))]) (rest := [(.ref b3)]) (lenOf pd_3 rfl) rfl (by show 2 * 0 + _ ≤ _; exact Nat.le_of_eq rfl) (hb hby d10_22) (fun _ _ => ⟨rfl, rfl, (by decide : 2 + 0 ≤ _), (by decide : 5 + 0 ≤ _)⟩)
  dsimp only [Pt.U, Pt.locs, Pt.cells, Pt.slots] at X8 l8 y8 z8 st8 hQ8
  subst l8 y8 z8
  obtain ⟨rfl, N8q, K8, f8_0, f8_1, f8_2⟩ := hQ8
  have N8 := Fr.app N4 N8q
  have Z8 : n0 ≤ T8.heap.size := Nat.le_trans Z4 K8.1
  have KK8 : Keep h0 T8.heap [] := (KK4).trans K8 (allS (Or.inr sz_b3) all0)
  refine Done.st (B := T8.setTop (mkF m 25 #[.val (.int q)] [(.ref b3)])) (fun _ k => st8.trans k) ?_
  obtain ⟨fs, hr, hrun, hended, hW, hsame⟩ := X8.leave (v := some (.ref b3)) (hlocks := hlk) (fun h => by rw [Bd.returns] at h; cases h)
  have c10 := (f4_0.keep K8 (ninS (Ne.symm ne_b3_tb) nin0))
  have Vs : Arv Z T8.heap tb kb .byte (1 : Int32) [(.int (q.toInt8.toInt32))] (.int (0 : Int32)) := by have z := c10; rw [own_nb] at z; exact z
  refine Done.fin (retR X8 hx Bd.returns rfl rfl (hb hby d10_25) hr) hrun hended ⟨_, _, rfl, ?_, ⟨_, rfl⟩, hW, hsame.mono (by decide) (by decide)⟩
  show QrmVO Z q z h0 n0 _ T8.heap _
  exact ⟨b3, rfl, N8, sz_b3, KK8, tb, kb, f8_0, f8_2, f8_1, Vs⟩
theorem ef_rmM (m : MethodId) (q : Int32) : entryFrame m #[(.int q)] 5 = mkF m 0 #[.val (.int q), .unset, .unset, .unset, .unset] [] := by first | (simp [entryFrame, mkF, argsToLocals, Value.category]; done) | rfl
def QrmM (Z : State) (q : Int32) (z : Int32) (h0 : Heap) (n0 : Nat) (v : Option Value) (h : Heap) (L : List Loc) : Prop := ∃ b : Addr, v = some (.ref b) ∧ Fr n0 L ∧ h0.size ≤ b ∧ Keep h0 h [] ∧ Str Z h b (own_mc q)
def PrmM (s : State) (Z : State) (q : Int32) (z : Int32) (h0 : Heap) (n0 : Nat) : State → Outcome → Prop := fun U' o => ∃ v L, o = .returned v ∧ QrmM Z q z h0 n0 v U'.heap L ∧ CHr Z own_EL s.vm s.heap U'.vm U'.heap ∧ ReturnedEndW s o U' L ({ frames := 4, cells := 4, slots := 10, locals := 66 } : Room).cells ({ frames := 4, cells := 4, slots := 10, locals := 66 } : Room).slots
set_option maxRecDepth 65536 in
set_option maxHeartbeats 40000000 in
theorem rmM (l : Launch) (Z : State) (a0 : Array Value) (hw : ∀ d ∈ tables_1, d.before a0 Z = true) (ws : List Jvm.Cond) (q : Int32) (z : Int32) (h0 : Heap) (n0 : Nat) (Z0 : n0 ≤ h0.size) (S_z : Sta Z h0 "java/lang/String" "COMPACT_STRINGS" "Z" (.int z)) (hz : ¬ z = 0) :
    MetFree l (⟨"com/example/nameward/nameward/model/ClaimsRecordEqualsPinLaw", "mk", "(I)Ljava/lang/String;"⟩ : MethodName) (head1 (Jvm.Cond.code (⟨"com/example/nameward/nameward/model/ClaimsRecordEqualsPinLaw", "mk", "(I)Ljava/lang/String;"⟩ : MethodName) method_2_code 5 (some (.object "java/lang/String")) :: ws) ({ frames := 4, cells := 4, slots := 10, locals := 66 } : Room)) (fun aa U => aa = #[(.int q)] ∧ Z.Warmed39 U.vm ∧ U.heap = h0 ∧ CHv Z own_EL U.vm h0) (fun _ _ _ _ _ => True) (fun _ U o U' => ∃ v L, o = .returned v ∧ QrmM Z q z h0 n0 v U'.heap L ∧ CHr Z own_EL U.vm U.heap U'.vm U'.heap ∧ ReturnedEndW U o U' L ({ frames := 4, cells := 4, slots := 10, locals := 66 } : Room).cells ({ frames := 4, cells := 4, slots := 10, locals := 66 } : Room).slots) := by
  refine MetFree.of_bodySF (plainFor_of_name pn_1) hisR ?_
  intro p e s m args below meth c s₁ Bd hml0 hP hK
  obtain ⟨rfl, hZ, hh, hC0⟩ := hP
  have hx := Bd.exec
  have hlk : meth.locks = false := by first | exact BodyLoose.notSynchronized Bd | exact Body.notSynchronized Bd
  have hby := Bd.bytes
  have hml : c.maxLocals = 5 := hml0
  have hown : s.vm.findClass "com/example/nameward/nameward/model/ClaimsRecordEqualsPinLaw" = some m.cls := findClass_of_methodNamed Bd.named
  have hnm := (name_of_methodNamed Bd.named Bd.method).1
  have X0 : Stand p l e ({ frames := 4, cells := 4, slots := 10, locals := 66 } : Room) (s.setVm s.vm) m #[(.int q)] below meth c s₁ [] 0 0 := Stand.of_body Bd
  have e0 : s₁.heap = h0 := by rw [← hh, Bd.state]; rfl
  have N0 := Fr.nil n0
  have hEL : EW Z a0 own_EL := EW.cons (hw _ (List.mem_of_getElem? (i := 27) rfl)) (by decide) EW.nil
  have hS0 : s.Since s.vm 0 := (State.WarmedH.refl s).since 0
  have hk0 : 0 ≤ h0.size := Nat.zero_le _
  have R0 : CHr Z own_EL s.vm h0 s.vm h0 := CHr.refl hC0
  show Done p e below (PrmM s Z q z h0 n0) (s₁.setTop (entryFrame m #[(.int q)] 5))
  refine Done.st (B := s₁.setTop (mkF m 0 #[.val (.int q), .unset, .unset, .unset, .unset] [])) (fun _ k => castTop (ef_rmM m q) k) ?_
  refine Done.st (B := s₁.setTop (mkF m 1 #[.val (.int q), .unset, .unset, .unset, .unset] [(.int q)])) (fun _ k => XS.iloadN X0.here hx rfl (hb hby d3_0) rfl k) ?_
  refine Done.st (B := s₁.setTop (mkF m 2 #[.val (.int q), .unset, .unset, .unset, .unset] [(.int (3 : Int32)), (.int q)])) (fun _ k => XS.iconst X0.here hx rfl (hb hby d3_1) k) ?_
  refine Done.st (B := s₁.setTop (mkF m 3 #[.val (.int q), .unset, .unset, .unset, .unset] [(.int (q &&& (3 : Int32)))])) (fun _ k => XS.iand X0.here hx rfl (hb hby d3_2) rfl k) ?_
  refine Done.st (B := s₁.setTop (mkF m 4 #[.val (.int q), .val (.int (q &&& (3 : Int32))), .unset, .unset, .unset] [])) (fun _ k => XS.istoreN X0.here hx rfl (hb hby d3_3) rfl (l' := #[.val (.int q), .val (.int (q &&& (3 : Int32))), .unset, .unset, .unset]) rfl k) ?_
  refine Done.st (B := s₁.setTop (mkF m 5 #[.val (.int q), .val (.int (q &&& (3 : Int32))), .unset, .unset, .unset] [(.int q)])) (fun _ k => XS.iloadN X0.here hx rfl (hb hby d3_4) rfl k) ?_
  refine Done.st (B := s₁.setTop (mkF m 6 #[.val (.int q), .val (.int (q &&& (3 : Int32))), .unset, .unset, .unset] [(.int (2 : Int32)), (.int q)])) (fun _ k => XS.iconst X0.here hx rfl (hb hby d3_5) k) ?_
  refine Done.st (B := s₁.setTop (mkF m 7 #[.val (.int q), .val (.int (q &&& (3 : Int32))), .unset, .unset, .unset] [(.int ((q.toUInt32 >>> ((2 : Int32) &&& 31).toUInt32).toInt32))])) (fun _ k => XS.iushr X0.here hx rfl (hb hby d3_6) rfl k) ?_
  refine Done.st (B := s₁.setTop (mkF m 10 #[.val (.int q), .val (.int (q &&& (3 : Int32))), .unset, .unset, .unset] [(.int (255 : Int32)), (.int ((q.toUInt32 >>> ((2 : Int32) &&& 31).toUInt32).toInt32))])) (fun _ k => XS.sipush X0.here hx rfl (hb hby d3_7) k) ?_
  refine Done.st (B := s₁.setTop (mkF m 11 #[.val (.int q), .val (.int (q &&& (3 : Int32))), .unset, .unset, .unset] [(.int (((q.toUInt32 >>> ((2 : Int32) &&& 31).toUInt32).toInt32) &&& (255 : Int32)))])) (fun _ k => XS.iand X0.here hx rfl (hb hby d3_10) rfl k) ?_
  refine Done.st (B := s₁.setTop (mkF m 12 #[.val (.int q), .val (.int (q &&& (3 : Int32))), .unset, .unset, .unset] [(.int ((((q.toUInt32 >>> ((2 : Int32) &&& 31).toUInt32).toInt32) &&& (255 : Int32)).toUInt32.toUInt16.toUInt32.toInt32))])) (fun _ k => XS.i2c X0.here hx rfl (hb hby d3_11) rfl k) ?_
  refine Done.st (B := s₁.setTop (mkF m 13 #[.val (.int q), .val (.int (q &&& (3 : Int32))), .val (.int ((((q.toUInt32 >>> ((2 : Int32) &&& 31).toUInt32).toInt32) &&& (255 : Int32)).toUInt32.toUInt16.toUInt32.toInt32)), .unset, .unset] [])) (fun _ k => XS.istoreN X0.here hx rfl (hb hby d3_12) rfl (l' := #[.val (.int q), .val (.int (q &&& (3 : Int32))), .val (.int ((((q.toUInt32 >>> ((2 : Int32) &&& 31).toUInt32).toInt32) &&& (255 : Int32)).toUInt32.toUInt16.toUInt32.toInt32)), .unset, .unset]) rfl k) ?_
  refine Done.st (B := s₁.setTop (mkF m 14 #[.val (.int q), .val (.int (q &&& (3 : Int32))), .val (.int ((((q.toUInt32 >>> ((2 : Int32) &&& 31).toUInt32).toInt32) &&& (255 : Int32)).toUInt32.toUInt16.toUInt32.toInt32)), .unset, .unset] [(.int q)])) (fun _ k => XS.iloadN X0.here hx rfl (hb hby d3_13) rfl k) ?_
  refine Done.st (B := s₁.setTop (mkF m 16 #[.val (.int q), .val (.int (q &&& (3 : Int32))), .val (.int ((((q.toUInt32 >>> ((2 : Int32) &&& 31).toUInt32).toInt32) &&& (255 : Int32)).toUInt32.toUInt16.toUInt32.toInt32)), .unset, .unset] [(.int (10 : Int32)), (.int q)])) (fun _ k => XS.bipush X0.here hx rfl (hb hby d3_14) k) ?_
  refine Done.st (B := s₁.setTop (mkF m 17 #[.val (.int q), .val (.int (q &&& (3 : Int32))), .val (.int ((((q.toUInt32 >>> ((2 : Int32) &&& 31).toUInt32).toInt32) &&& (255 : Int32)).toUInt32.toUInt16.toUInt32.toInt32)), .unset, .unset] [(.int ((q.toUInt32 >>> ((10 : Int32) &&& 31).toUInt32).toInt32))])) (fun _ k => XS.iushr X0.here hx rfl (hb hby d3_16) rfl k) ?_
  refine Done.st (B := s₁.setTop (mkF m 20 #[.val (.int q), .val (.int (q &&& (3 : Int32))), .val (.int ((((q.toUInt32 >>> ((2 : Int32) &&& 31).toUInt32).toInt32) &&& (255 : Int32)).toUInt32.toUInt16.toUInt32.toInt32)), .unset, .unset] [(.int (255 : Int32)), (.int ((q.toUInt32 >>> ((10 : Int32) &&& 31).toUInt32).toInt32))])) (fun _ k => XS.sipush X0.here hx rfl (hb hby d3_17) k) ?_
  refine Done.st (B := s₁.setTop (mkF m 21 #[.val (.int q), .val (.int (q &&& (3 : Int32))), .val (.int ((((q.toUInt32 >>> ((2 : Int32) &&& 31).toUInt32).toInt32) &&& (255 : Int32)).toUInt32.toUInt16.toUInt32.toInt32)), .unset, .unset] [(.int (((q.toUInt32 >>> ((10 : Int32) &&& 31).toUInt32).toInt32) &&& (255 : Int32)))])) (fun _ k => XS.iand X0.here hx rfl (hb hby d3_20) rfl k) ?_
  refine Done.st (B := s₁.setTop (mkF m 22 #[.val (.int q), .val (.int (q &&& (3 : Int32))), .val (.int ((((q.toUInt32 >>> ((2 : Int32) &&& 31).toUInt32).toInt32) &&& (255 : Int32)).toUInt32.toUInt16.toUInt32.toInt32)), .unset, .unset] [(.int ((((q.toUInt32 >>> ((10 : Int32) &&& 31).toUInt32).toInt32) &&& (255 : Int32)).toUInt32.toUInt16.toUInt32.toInt32))])) (fun _ k => XS.i2c X0.here hx rfl (hb hby d3_21) rfl k) ?_
  refine Done.st (B := s₁.setTop (mkF m 23 #[.val (.int q), .val (.int (q &&& (3 : Int32))), .val (.int ((((q.toUInt32 >>> ((2 : Int32) &&& 31).toUInt32).toInt32) &&& (255 : Int32)).toUInt32.toUInt16.toUInt32.toInt32)), .val (.int ((((q.toUInt32 >>> ((10 : Int32) &&& 31).toUInt32).toInt32) &&& (255 : Int32)).toUInt32.toUInt16.toUInt32.toInt32)), .unset] [])) (fun _ k => XS.istoreN X0.here hx rfl (hb hby d3_22) rfl (l' := #[.val (.int q), .val (.int (q &&& (3 : Int32))), .val (.int ((((q.toUInt32 >>> ((2 : Int32) &&& 31).toUInt32).toInt32) &&& (255 : Int32)).toUInt32.toUInt16.toUInt32.toInt32)), .val (.int ((((q.toUInt32 >>> ((10 : Int32) &&& 31).toUInt32).toInt32) &&& (255 : Int32)).toUInt32.toUInt16.toUInt32.toInt32)), .unset]) rfl k) ?_
  refine Done.st (B := s₁.setTop (mkF m 24 #[.val (.int q), .val (.int (q &&& (3 : Int32))), .val (.int ((((q.toUInt32 >>> ((2 : Int32) &&& 31).toUInt32).toInt32) &&& (255 : Int32)).toUInt32.toUInt16.toUInt32.toInt32)), .val (.int ((((q.toUInt32 >>> ((10 : Int32) &&& 31).toUInt32).toInt32) &&& (255 : Int32)).toUInt32.toUInt16.toUInt32.toInt32)), .unset] [(.int q)])) (fun _ k => XS.iloadN X0.here hx rfl (hb hby d3_23) rfl k) ?_
  refine Done.st (B := s₁.setTop (mkF m 26 #[.val (.int q), .val (.int (q &&& (3 : Int32))), .val (.int ((((q.toUInt32 >>> ((2 : Int32) &&& 31).toUInt32).toInt32) &&& (255 : Int32)).toUInt32.toUInt16.toUInt32.toInt32)), .val (.int ((((q.toUInt32 >>> ((10 : Int32) &&& 31).toUInt32).toInt32) &&& (255 : Int32)).toUInt32.toUInt16.toUInt32.toInt32)), .unset] [(.int (18 : Int32)), (.int q)])) (fun _ k => XS.bipush X0.here hx rfl (hb hby d3_24) k) ?_
  refine Done.st (B := s₁.setTop (mkF m 27 #[.val (.int q), .val (.int (q &&& (3 : Int32))), .val (.int ((((q.toUInt32 >>> ((2 : Int32) &&& 31).toUInt32).toInt32) &&& (255 : Int32)).toUInt32.toUInt16.toUInt32.toInt32)), .val (.int ((((q.toUInt32 >>> ((10 : Int32) &&& 31).toUInt32).toInt32) &&& (255 : Int32)).toUInt32.toUInt16.toUInt32.toInt32)), .unset] [(.int ((q.toUInt32 >>> ((18 : Int32) &&& 31).toUInt32).toInt32))])) (fun _ k => XS.iushr X0.here hx rfl (hb hby d3_26) rfl k) ?_
  refine Done.st (B := s₁.setTop (mkF m 30 #[.val (.int q), .val (.int (q &&& (3 : Int32))), .val (.int ((((q.toUInt32 >>> ((2 : Int32) &&& 31).toUInt32).toInt32) &&& (255 : Int32)).toUInt32.toUInt16.toUInt32.toInt32)), .val (.int ((((q.toUInt32 >>> ((10 : Int32) &&& 31).toUInt32).toInt32) &&& (255 : Int32)).toUInt32.toUInt16.toUInt32.toInt32)), .unset] [(.int (255 : Int32)), (.int ((q.toUInt32 >>> ((18 : Int32) &&& 31).toUInt32).toInt32))])) (fun _ k => XS.sipush X0.here hx rfl (hb hby d3_27) k) ?_
  refine Done.st (B := s₁.setTop (mkF m 31 #[.val (.int q), .val (.int (q &&& (3 : Int32))), .val (.int ((((q.toUInt32 >>> ((2 : Int32) &&& 31).toUInt32).toInt32) &&& (255 : Int32)).toUInt32.toUInt16.toUInt32.toInt32)), .val (.int ((((q.toUInt32 >>> ((10 : Int32) &&& 31).toUInt32).toInt32) &&& (255 : Int32)).toUInt32.toUInt16.toUInt32.toInt32)), .unset] [(.int (((q.toUInt32 >>> ((18 : Int32) &&& 31).toUInt32).toInt32) &&& (255 : Int32)))])) (fun _ k => XS.iand X0.here hx rfl (hb hby d3_30) rfl k) ?_
  refine Done.st (B := s₁.setTop (mkF m 32 #[.val (.int q), .val (.int (q &&& (3 : Int32))), .val (.int ((((q.toUInt32 >>> ((2 : Int32) &&& 31).toUInt32).toInt32) &&& (255 : Int32)).toUInt32.toUInt16.toUInt32.toInt32)), .val (.int ((((q.toUInt32 >>> ((10 : Int32) &&& 31).toUInt32).toInt32) &&& (255 : Int32)).toUInt32.toUInt16.toUInt32.toInt32)), .unset] [(.int ((((q.toUInt32 >>> ((18 : Int32) &&& 31).toUInt32).toInt32) &&& (255 : Int32)).toUInt32.toUInt16.toUInt32.toInt32))])) (fun _ k => XS.i2c X0.here hx rfl (hb hby d3_31) rfl k) ?_
  have j34 : ∀ (cx : Int32) (cy : Int32) (cz : Int32) (h_cx : cx = own_cc q 2) (h_cy : cy = own_cc q 10) (h_cz : cz = own_cc q 18), Done p e below (PrmM s Z q z h0 n0) (s₁.setTop (mkF m 34 #[.val (.int q), .val (.int (q &&& (3 : Int32))), .val (.int cx), .val (.int cy), .val (.int cz)] [])) := by
    intro cx cy cz h_cx h_cy h_cz
    refine Done.st (B := s₁.setTop (mkF m 35 #[.val (.int q), .val (.int (q &&& (3 : Int32))), .val (.int cx), .val (.int cy), .val (.int cz)] [(.int (q &&& (3 : Int32)))])) (fun _ k => XS.iloadN X0.here hx rfl (hb hby d3_34) rfl k) ?_
    by_cases hc35 : (q &&& (3 : Int32)) = (0 : Int32)
    · refine Done.st (B := s₁.setTop (mkF m 38 #[.val (.int q), .val (.int (q &&& (3 : Int32))), .val (.int cx), .val (.int cy), .val (.int cz)] [])) (fun _ k => XS.ifNo X0.here hx rfl (hb hby d3_35) rfl ((if0 _ _).trans (teq hc35).2) k) ?_
      obtain ⟨T1, h1, X1, e1, E1, A1, D1, -, st1⟩ := newO X0 hx hZ hown (hw _ (List.mem_of_getElem? (i := 13) rfl)) (hw _ (List.mem_of_getElem? (i := 14) rfl)) (hw _ (List.mem_of_getElem? (i := 15) rfl)) e0 (g := (mkF m 38 #[.val (.int q), .val (.int (q &&& (3 : Int32))), .val (.int cx), .val (.int cy), .val (.int cz)] [])) rfl (hb hby d3_38) (by decide) (by decide)
      obtain ⟨b1, g1⟩ : ∃ z, z = h0.size := ⟨_, rfl⟩
      rw [← g1] at A1 D1 st1
      have ge_b1 : n0 ≤ b1 := Nat.le_trans Z0 (Nat.le_of_eq g1.symm)
      have sz_b1 : h0.size ≤ b1 := Nat.le_trans ((Keep.refl h0 [])).1 (Nat.le_of_eq g1.symm)
      have Z1 : n0 ≤ h1.size := Nat.le_trans Z0 E1.1
      have F1_value : Fld Z h1 b1 "java/lang/String" "value" "[B" .null := D1 (Or.inr (hw _ (List.mem_of_getElem? (i := 29) rfl))) (ty := (.array .byte)) (by decide)
      have F1_coder : Fld Z h1 b1 "java/lang/String" "coder" "B" (.int (0 : Int32)) := D1 (Or.inr (hw _ (List.mem_of_getElem? (i := 30) rfl))) (ty := .byte) (by decide)
      have C1 := CHv.ext E1 hC0
      have R1 := R0.trans (CHr.ext E1 hC0)
      have hk1 := Nat.le_trans hk0 E1.1
      have KK1 : Keep h0 h1 [] := ((Keep.refl h0 [])).ext E1
      refine Done.st (B := T1.setTop (mkF m 41 #[.val (.int q), .val (.int (q &&& (3 : Int32))), .val (.int cx), .val (.int cy), .val (.int cz)] [(.ref b1)])) (fun _ k => st1 _ k) ?_
      refine Done.st (B := T1.setTop (mkF m 42 #[.val (.int q), .val (.int (q &&& (3 : Int32))), .val (.int cx), .val (.int cy), .val (.int cz)] [(.ref b1), (.ref b1)])) (fun _ k => XS.dup X1.here hx rfl (hb hby d3_41) rfl rfl k) ?_
      refine Done.st (B := T1.setTop (mkF m 43 #[.val (.int q), .val (.int (q &&& (3 : Int32))), .val (.int cx), .val (.int cy), .val (.int cz)] [(.int (0 : Int32)), (.ref b1), (.ref b1)])) (fun _ k => XS.iconst X1.here hx rfl (hb hby d3_42) k) ?_
      obtain ⟨T2, h2, k2, X2, e2, E2, A2, st2⟩ := newP X1 hx hZ (hw _ (List.mem_of_getElem? (i := 16) rfl)) e1 (g := (mkF m 43 #[.val (.int q), .val (.int (q &&& (3 : Int32))), .val (.int cx), .val (.int cy), .val (.int cz)] [(.int (0 : Int32)), (.ref b1), (.ref b1)])) rfl (hb hby d3_43) rfl (by decide) (cap := 0) (by decide) (by decide) (by decide) (by decide)
      obtain ⟨b2, g2⟩ : ∃ z, z = h1.size := ⟨_, rfl⟩
      rw [← g2] at A2 st2
      have ne_b1_b2 : b1 ≠ b2 := Nat.ne_of_lt (Nat.lt_of_lt_of_le A1.lt (Nat.le_of_eq g2.symm))
      have ge_b2 : n0 ≤ b2 := Nat.le_trans Z1 (Nat.le_of_eq g2.symm)
      have sz_b2 : h0.size ≤ b2 := Nat.le_trans (KK1).1 (Nat.le_of_eq g2.symm)
      have Z2 : n0 ≤ h2.size := Nat.le_trans Z1 E2.1
      have V2 : Arv Z h2 b2 k2 .char (0 : Int32) [] (.int (0 : Int32)) := (Arv.new A2 (by decide))
      have C2 := CHv.ext E2 C1
      have R2 := R1.trans (CHr.ext E2 C1)
      have hk2 := Nat.le_trans hk1 E2.1
      have KK2 : Keep h0 h2 [] := (KK1).ext E2
      refine Done.st (B := T2.setTop (mkF m 45 #[.val (.int q), .val (.int (q &&& (3 : Int32))), .val (.int cx), .val (.int cy), .val (.int cz)] [(.ref b2), (.ref b1), (.ref b1)])) (fun _ k => st2 _ k) ?_
      have c3 := (Fld.ext E2 F1_value)
      have c4 := (Fld.ext E2 F1_coder)
      have c5 := (Exa.ext E2 A1)
      obtain ⟨_, _, ⟨T6, L6, k6, n6⟩, -, X6, hs6, hg6, ⟨Lc6, hQ6, l6, y6, z6, cr6⟩, st6⟩ := X2.specialBackS hx (y := (⟨"java/lang/String", "<init>", "([C)V"⟩ : MethodName)) rfl hown (mvT hZ (hw _ (List.mem_of_getElem? (i := 17) rfl))) (mvT hZ (hw _ (List.mem_of_getElem? (i := 18) rfl))) (mvT hZ (hw _ (List.mem_of_getElem? (i := 19) rfl))) (by decide) (backOfSH (W := 1) (rmS1 l Z a0 hw [] b1 b2 k2 h2 n0 Z2 c3 c4 c5 ge_b1 V2) hZ (hw _ (List.mem_of_getElem? (i := 19) rfl)) (hw _ (List.mem_of_getElem? (i := 15) rfl)) (by decide) (by decide) hEL C2) (g := (mkF m 45 #[.val (.int q), .val (.int (q &&& (3 : Int32))), .val (.int cx), .val (.int cy), .val (.int cz)] [(.ref b2), (.ref b1), (.ref b1)])) rfl (by rw [hml]; rfl) (Steps.refl _) (a := b1) (argsL := [(.ref b2)]) (rest := [(.ref b1)]) (lenOf pd_4 rfl) rfl (by show 2 * 0 + _ ≤ _; exact Nat.le_of_eq rfl) (hb hby d3_45) (fun _ _ => ⟨rfl, e2, (by decide : 2 + 2 ≤ _), (by decide : 4 + 4 ≤ _)⟩)
      dsimp only [Pt.U, Pt.locs, Pt.cells, Pt.slots] at X6 l6 y6 z6 st6 hQ6 hs6 hg6 cr6
      subst l6 y6 z6
      obtain ⟨X6, hS6, hZ, hown⟩ := rebS hS0 (by rw [e2]; exact hk2) X6 hs6 hg6 hZ hown
      have R6 := R2.trans cr6
      have C6 := cr6.1
      have hk6 := Nat.le_refl T6.heap.size
      obtain ⟨rfl, N6q, K6, f6_0⟩ := hQ6
      have N6 := Fr.app N0 N6q
      have Z6 : n0 ≤ T6.heap.size := Nat.le_trans Z2 K6.1
      have KK6 : Keep h0 T6.heap [] := (KK2).trans K6 (allS (Or.inr sz_b1) all0)
      refine Done.st (B := T6.setTop (mkF m 48 #[.val (.int q), .val (.int (q &&& (3 : Int32))), .val (.int cx), .val (.int cy), .val (.int cz)] [(.ref b1)])) (fun _ k => st6.trans k) ?_
      obtain ⟨fs, hr, hrun, hended, hWW⟩ := X6.leaveW hS6 hk6 (v := some (.ref b1)) (hlocks := hlk) (fun h => by rw [Bd.returns] at h; cases h)
      refine Done.fin (retR X6 hx Bd.returns rfl rfl (hb hby d3_48) hr) hrun hended ⟨_, _, rfl, ?_, ?_, hWW.1, hWW.2.1, hWW.2.2.1, hWW.2.2.2.mono (by decide) (by decide)⟩
      rotate_left
      · show CHr Z own_EL s.vm s.heap T6.vm T6.heap
        rw [hh]
        exact R6.trans (CHv.at X6 hZ hEL C6)
      show QrmM Z q z h0 n0 _ T6.heap _
      exact ⟨b1, rfl, N6, sz_b1, KK6, by have z := f6_0; simpa [own_mc, own_cs, hc35] using z⟩
    · refine Done.st (B := s₁.setTop (mkF m 49 #[.val (.int q), .val (.int (q &&& (3 : Int32))), .val (.int cx), .val (.int cy), .val (.int cz)] [])) (fun _ k => XS.ifYes X0.here hx rfl (pc0 := 35) (pc' := 49) rfl (hb hby d3_35) rfl ((if0 _ _).trans (feq hc35).2) (by decide) (by decide) k) ?_
      refine Done.st (B := s₁.setTop (mkF m 50 #[.val (.int q), .val (.int (q &&& (3 : Int32))), .val (.int cx), .val (.int cy), .val (.int cz)] [(.int (q &&& (3 : Int32)))])) (fun _ k => XS.iloadN X0.here hx rfl (hb hby d3_49) rfl k) ?_
      refine Done.st (B := s₁.setTop (mkF m 51 #[.val (.int q), .val (.int (q &&& (3 : Int32))), .val (.int cx), .val (.int cy), .val (.int cz)] [(.int (1 : Int32)), (.int (q &&& (3 : Int32)))])) (fun _ k => XS.iconst X0.here hx rfl (hb hby d3_50) k) ?_
      by_cases hc51 : (q &&& (3 : Int32)) = (1 : Int32)
      · refine Done.st (B := s₁.setTop (mkF m 54 #[.val (.int q), .val (.int (q &&& (3 : Int32))), .val (.int cx), .val (.int cy), .val (.int cz)] [])) (fun _ k => XS.icmpNo X0.here hx rfl (hb hby d3_51) rfl (teq hc51).2 k) ?_
        refine Done.st (B := s₁.setTop (mkF m 55 #[.val (.int q), .val (.int (q &&& (3 : Int32))), .val (.int cx), .val (.int cy), .val (.int cz)] [(.int cx)])) (fun _ k => XS.iloadN X0.here hx rfl (hb hby d3_54) rfl k) ?_
        obtain ⟨_, _, ⟨T8, L8, k8, n8⟩, -, X8, ⟨Lc8, hQ8, l8, y8, z8⟩, st8⟩ := Jvm.LawKit.callS X0 hx (y := (⟨"java/lang/String", "valueOf", "(C)Ljava/lang/String;"⟩ : MethodName)) hown (mvT hZ (hw _ (List.mem_of_getElem? (i := 46) rfl))) (mvT hZ (hw _ (List.mem_of_getElem? (i := 47) rfl))) (mvT hZ (hw _ (List.mem_of_getElem? (i := 15) rfl))) (mvT hZ (hw _ (List.mem_of_getElem? (i := 48) rfl))) (by decide) (backOf (W := 0) (rmVO l Z a0 hw [] cx z h0 n0 Z0 S_z hz (own_b8ok (by rw [h_cx]; exact own_cc8 _ _))) hZ (hw _ (List.mem_of_getElem? (i := 48) rfl)) (hw _ (List.mem_of_getElem? (i := 15) rfl)) (by decide) (by decide)) (g := (mkF m 55 #[.val (.int q), .val (.int (q &&& (3 : Int32))), .val (.int cx), .val (.int cy), .val (.int cz)] [(.int cx)])) rfl (by rw [hml]; rfl) (argsL := [(.int cx)]) (rest := []) (lenOf pd_5 rfl) rfl (by show 2 * 0 + _ ≤ _; exact Nat.le_of_eq rfl) (hb hby d3_55) (fun _ _ => ⟨rfl, e0, (by decide : 0 + 2 ≤ _), (by decide : 0 + 5 ≤ _)⟩)
        dsimp only [Pt.U, Pt.locs, Pt.cells, Pt.slots] at X8 l8 y8 z8 st8 hQ8
        subst l8 y8 z8
        obtain ⟨vs55, rfl, N8q, sz8, K8, f8_0⟩ := hQ8
        have N8 := Fr.app N0 N8q
        have ge_vs55 : n0 ≤ vs55 := Nat.le_trans Z0 sz8
        have sz_vs55 : h0.size ≤ vs55 := Nat.le_trans ((Keep.refl h0 [])).1 sz8
        have C8 := CHv.keep K8 sf0 hC0
        have R8 := R0.trans (CHr.keep K8 sf0 hC0)
        have hk8 := Nat.le_trans hk0 K8.1
        have Z8 : n0 ≤ T8.heap.size := Nat.le_trans Z0 K8.1
        have KK8 : Keep h0 T8.heap [] := ((Keep.refl h0 [])).trans K8 all0
        refine Done.st (B := T8.setTop (mkF m 58 #[.val (.int q), .val (.int (q &&& (3 : Int32))), .val (.int cx), .val (.int cy), .val (.int cz)] [(.ref vs55)])) (fun _ k => st8 _ k) ?_
        obtain ⟨fs, hr, hrun, hended, hWW⟩ := X8.leaveW hS0 hk8 (v := some (.ref vs55)) (hlocks := hlk) (fun h => by rw [Bd.returns] at h; cases h)
        refine Done.fin (retR X8 hx Bd.returns rfl rfl (hb hby d3_58) hr) hrun hended ⟨_, _, rfl, ?_, ?_, hWW.1, hWW.2.1, hWW.2.2.1, hWW.2.2.2.mono (by decide) (by decide)⟩
        rotate_left
        · show CHr Z own_EL s.vm s.heap T8.vm T8.heap
          rw [hh]
          exact R8.trans (CHv.at X8 hZ hEL C8)
        show QrmM Z q z h0 n0 _ T8.heap _
        exact ⟨vs55, rfl, N8, sz_vs55, KK8, by have z := f8_0; rw [h_cx] at z; simpa [own_mc, own_cs, hc35, hc51] using z⟩
      · refine Done.st (B := s₁.setTop (mkF m 59 #[.val (.int q), .val (.int (q &&& (3 : Int32))), .val (.int cx), .val (.int cy), .val (.int cz)] [])) (fun _ k => XS.icmpYes X0.here hx rfl (pc0 := 51) (pc' := 59) rfl (hb hby d3_51) rfl (feq hc51).2 (by decide) (by decide) k) ?_
        refine Done.st (B := s₁.setTop (mkF m 60 #[.val (.int q), .val (.int (q &&& (3 : Int32))), .val (.int cx), .val (.int cy), .val (.int cz)] [(.int (q &&& (3 : Int32)))])) (fun _ k => XS.iloadN X0.here hx rfl (hb hby d3_59) rfl k) ?_
        refine Done.st (B := s₁.setTop (mkF m 61 #[.val (.int q), .val (.int (q &&& (3 : Int32))), .val (.int cx), .val (.int cy), .val (.int cz)] [(.int (2 : Int32)), (.int (q &&& (3 : Int32)))])) (fun _ k => XS.iconst X0.here hx rfl (hb hby d3_60) k) ?_
        by_cases hc61 : (q &&& (3 : Int32)) = (2 : Int32)
        · refine Done.st (B := s₁.setTop (mkF m 64 #[.val (.int q), .val (.int (q &&& (3 : Int32))), .val (.int cx), .val (.int cy), .val (.int cz)] [])) (fun _ k => XS.icmpNo X0.here hx rfl (hb hby d3_61) rfl (teq hc61).2 k) ?_
          obtain ⟨T10, h10, X10, e10, E10, A10, D10, -, st10⟩ := newO X0 hx hZ hown (hw _ (List.mem_of_getElem? (i := 13) rfl)) (hw _ (List.mem_of_getElem? (i := 14) rfl)) (hw _ (List.mem_of_getElem? (i := 15) rfl)) e0 (g := (mkF m 64 #[.val (.int q), .val (.int (q &&& (3 : Int32))), .val (.int cx), .val (.int cy), .val (.int cz)] [])) rfl (hb hby d3_64) (by decide) (by decide)
          obtain ⟨b10, g10⟩ : ∃ z, z = h0.size := ⟨_, rfl⟩
          rw [← g10] at A10 D10 st10
          have ge_b10 : n0 ≤ b10 := Nat.le_trans Z0 (Nat.le_of_eq g10.symm)
          have sz_b10 : h0.size ≤ b10 := Nat.le_trans ((Keep.refl h0 [])).1 (Nat.le_of_eq g10.symm)
          have Z10 : n0 ≤ h10.size := Nat.le_trans Z0 E10.1
          have F10_value : Fld Z h10 b10 "java/lang/String" "value" "[B" .null := D10 (Or.inr (hw _ (List.mem_of_getElem? (i := 29) rfl))) (ty := (.array .byte)) (by decide)
          have F10_coder : Fld Z h10 b10 "java/lang/String" "coder" "B" (.int (0 : Int32)) := D10 (Or.inr (hw _ (List.mem_of_getElem? (i := 30) rfl))) (ty := .byte) (by decide)
          have C10 := CHv.ext E10 hC0
          have R10 := R0.trans (CHr.ext E10 hC0)
          have hk10 := Nat.le_trans hk0 E10.1
          have KK10 : Keep h0 h10 [] := ((Keep.refl h0 [])).ext E10
          refine Done.st (B := T10.setTop (mkF m 67 #[.val (.int q), .val (.int (q &&& (3 : Int32))), .val (.int cx), .val (.int cy), .val (.int cz)] [(.ref b10)])) (fun _ k => st10 _ k) ?_
          refine Done.st (B := T10.setTop (mkF m 68 #[.val (.int q), .val (.int (q &&& (3 : Int32))), .val (.int cx), .val (.int cy), .val (.int cz)] [(.ref b10), (.ref b10)])) (fun _ k => XS.dup X10.here hx rfl (hb hby d3_67) rfl rfl k) ?_
          refine Done.st (B := T10.setTop (mkF m 69 #[.val (.int q), .val (.int (q &&& (3 : Int32))), .val (.int cx), .val (.int cy), .val (.int cz)] [(.int (2 : Int32)), (.ref b10), (.ref b10)])) (fun _ k => XS.iconst X10.here hx rfl (hb hby d3_68) k) ?_
          obtain ⟨T11, h11, k11, X11, e11, E11, A11, st11⟩ := newP X10 hx hZ (hw _ (List.mem_of_getElem? (i := 16) rfl)) e10 (g := (mkF m 69 #[.val (.int q), .val (.int (q &&& (3 : Int32))), .val (.int cx), .val (.int cy), .val (.int cz)] [(.int (2 : Int32)), (.ref b10), (.ref b10)])) rfl (hb hby d3_69) rfl (by decide) (cap := 2) (by decide) (by decide) (by decide) (by decide)
          obtain ⟨b11, g11⟩ : ∃ z, z = h10.size := ⟨_, rfl⟩
          rw [← g11] at A11 st11
          have ne_b10_b11 : b10 ≠ b11 := Nat.ne_of_lt (Nat.lt_of_lt_of_le A10.lt (Nat.le_of_eq g11.symm))
          have ge_b11 : n0 ≤ b11 := Nat.le_trans Z10 (Nat.le_of_eq g11.symm)
          have sz_b11 : h0.size ≤ b11 := Nat.le_trans (KK10).1 (Nat.le_of_eq g11.symm)
          have Z11 : n0 ≤ h11.size := Nat.le_trans Z10 E11.1
          have V11 : Arv Z h11 b11 k11 .char (2 : Int32) [(.int (0 : Int32)), (.int (0 : Int32))] (.int (0 : Int32)) := (Arv.new A11 (by decide)).pad (pad_rep [] (.int (0 : Int32)) 2)
          have C11 := CHv.ext E11 C10
          have R11 := R10.trans (CHr.ext E11 C10)
          have hk11 := Nat.le_trans hk10 E11.1
          have KK11 : Keep h0 h11 [] := (KK10).ext E11
          refine Done.st (B := T11.setTop (mkF m 71 #[.val (.int q), .val (.int (q &&& (3 : Int32))), .val (.int cx), .val (.int cy), .val (.int cz)] [(.ref b11), (.ref b10), (.ref b10)])) (fun _ k => st11 _ k) ?_
          refine Done.st (B := T11.setTop (mkF m 72 #[.val (.int q), .val (.int (q &&& (3 : Int32))), .val (.int cx), .val (.int cy), .val (.int cz)] [(.ref b11), (.ref b11), (.ref b10), (.ref b10)])) (fun _ k => XS.dup X11.here hx rfl (hb hby d3_71) rfl rfl k) ?_
          refine Done.st (B := T11.setTop (mkF m 73 #[.val (.int q), .val (.int (q &&& (3 : Int32))), .val (.int cx), .val (.int cy), .val (.int cz)] [(.int (0 : Int32)), (.ref b11), (.ref b11), (.ref b10), (.ref b10)])) (fun _ k => XS.iconst X11.here hx rfl (hb hby d3_72) k) ?_
          refine Done.st (B := T11.setTop (mkF m 74 #[.val (.int q), .val (.int (q &&& (3 : Int32))), .val (.int cx), .val (.int cy), .val (.int cz)] [(.int cx), (.int (0 : Int32)), (.ref b11), (.ref b11), (.ref b10), (.ref b10)])) (fun _ k => XS.iloadN X11.here hx rfl (hb hby d3_73) rfl k) ?_
          obtain ⟨cl12, Ar12, q12, S12, M12, H12, G12⟩ := id V11
          have hin12 : ¬ ((0 : Int32) < 0 ∨ cl12.slots.size ≤ ((0 : Int32)).toNatClampNeg) := inb_of S12 ⟨by decide, by decide⟩
          obtain ⟨T12, h12, X12, e12, W12, st12⟩ := stC X11 hx hZ e11 Ar12 (j := (0 : Int32)) hin12 (g := (mkF m 74 #[.val (.int q), .val (.int (q &&& (3 : Int32))), .val (.int cx), .val (.int cy), .val (.int cz)] [(.int cx), (.int (0 : Int32)), (.ref b11), (.ref b11), (.ref b10), (.ref b10)])) rfl rfl (hb hby d3_74)
          have V12 : Arv Z h12 b11 k11 .char (2 : Int32) [(.int (nar .char cx)), (.int (0 : Int32))] (.int (0 : Int32)) := Arv.set Ar12 q12 S12 M12 H12 G12 (fits_nar_char _) W12 0 rfl (Nat.le_of_ble_eq_true rfl)
          have N12 := Fr.snoc X12 N0 ge_b11
          have Z12 : n0 ≤ h12.size := Nat.le_trans Z11 (Keep.of_wr W12).1
          have C12 := CHv.wr W12 (Safe.arv (EL := own_EL) hZ.alike V11 (by decide)) C11
          have R12 := R11.trans (CHr.wr W12 (Safe.arv (EL := own_EL) hZ.alike V11 (by decide)) C11)
          have hk12 := Nat.le_trans hk11 (Keep.of_wr W12).1
          have sf12 := Safe.wr W12 (Safe.arv (EL := own_EL) hZ.alike V11 (by decide)) C11 (Safe.arv (EL := own_EL) hZ.alike V11 (by decide))
          have KK12 : Keep h0 h12 [] := (KK11).wr W12 (Or.inr sz_b11)
          refine Done.st (B := T12.setTop (mkF m 75 #[.val (.int q), .val (.int (q &&& (3 : Int32))), .val (.int cx), .val (.int cy), .val (.int cz)] [(.ref b11), (.ref b10), (.ref b10)])) (fun _ k => st12 _ k) ?_
          refine Done.st (B := T12.setTop (mkF m 76 #[.val (.int q), .val (.int (q &&& (3 : Int32))), .val (.int cx), .val (.int cy), .val (.int cz)] [(.ref b11), (.ref b11), (.ref b10), (.ref b10)])) (fun _ k => XS.dup X12.here hx rfl (hb hby d3_75) rfl rfl k) ?_
          refine Done.st (B := T12.setTop (mkF m 77 #[.val (.int q), .val (.int (q &&& (3 : Int32))), .val (.int cx), .val (.int cy), .val (.int cz)] [(.int (1 : Int32)), (.ref b11), (.ref b11), (.ref b10), (.ref b10)])) (fun _ k => XS.iconst X12.here hx rfl (hb hby d3_76) k) ?_
          refine Done.st (B := T12.setTop (mkF m 78 #[.val (.int q), .val (.int (q &&& (3 : Int32))), .val (.int cx), .val (.int cy), .val (.int cz)] [(.int cy), (.int (1 : Int32)), (.ref b11), (.ref b11), (.ref b10), (.ref b10)])) (fun _ k => XS.iloadN X12.here hx rfl (hb hby d3_77) rfl k) ?_
          obtain ⟨cl13, Ar13, q13, S13, M13, H13, G13⟩ := id V12
          have hin13 : ¬ ((1 : Int32) < 0 ∨ cl13.slots.size ≤ ((1 : Int32)).toNatClampNeg) := inb_of S13 ⟨by decide, by decide⟩
          obtain ⟨T13, h13, X13, e13, W13, st13⟩ := stC X12 hx hZ e12 Ar13 (j := (1 : Int32)) hin13 (g := (mkF m 78 #[.val (.int q), .val (.int (q &&& (3 : Int32))), .val (.int cx), .val (.int cy), .val (.int cz)] [(.int cy), (.int (1 : Int32)), (.ref b11), (.ref b11), (.ref b10), (.ref b10)])) rfl rfl (hb hby d3_78)
          have V13 : Arv Z h13 b11 k11 .char (2 : Int32) [(.int (nar .char cx)), (.int (nar .char cy))] (.int (0 : Int32)) := Arv.set Ar13 q13 S13 M13 H13 G13 (fits_nar_char _) W13 1 rfl (Nat.le_of_ble_eq_true rfl)
          have N13 := Fr.snoc X13 N12 ge_b11
          have Z13 : n0 ≤ h13.size := Nat.le_trans Z12 (Keep.of_wr W13).1
          have C13 := CHv.wr W13 sf12 C12
          have R13 := R12.trans (CHr.wr W13 sf12 C12)
          have hk13 := Nat.le_trans hk12 (Keep.of_wr W13).1
          have sf13 := Safe.wr W13 sf12 C12 sf12
          have KK13 : Keep h0 h13 [] := (KK12).wr W13 (Or.inr sz_b11)
          refine Done.st (B := T13.setTop (mkF m 79 #[.val (.int q), .val (.int (q &&& (3 : Int32))), .val (.int cx), .val (.int cy), .val (.int cz)] [(.ref b11), (.ref b10), (.ref b10)])) (fun _ k => st13 _ k) ?_
          have Kc14 : Arv Z h13 b11 k11 .char (2 : Int32) (([cx, cy] : List Int32).map Value.int) (.int (0 : Int32)) := by
            have z := V13
            simp only [own_nar (x := cx) (own_b8ok (by rw [h_cx]; exact own_cc8 _ _)), own_nar (x := cy) (own_b8ok (by rw [h_cy]; exact own_cc8 _ _))] at z
            exact z
          have hp14 : ∀ c ∈ ([cx, cy] : List Int32), ¬ c < 0 ∧ ¬ (255 : Int32) < c := by
            intro c hc
            simp only [List.mem_cons, List.not_mem_nil, or_false] at hc
            rcases hc with rfl | rfl
            · exact (own_b8ok (by rw [h_cx]; exact own_cc8 _ _))
            · exact (own_b8ok (by rw [h_cy]; exact own_cc8 _ _))
          have c15 := (Exa.wr W13 (Exa.wr W12 (Exa.ext E11 A10)))
          have c16 := (Fld.other W13 (Fld.other W12 (Fld.ext E11 F10_value) (Or.inl ne_b10_b11)) (Or.inl ne_b10_b11))
          have c17 := (Fld.other W13 (Fld.other W12 (Fld.ext E11 F10_coder) (Or.inl ne_b10_b11)) (Or.inl ne_b10_b11))
          have c18 := (Sta.wr W13 (Sta.wr W12 (Sta.ext E11 (Sta.ext E10 S_z))))
          obtain ⟨_, _, ⟨T19, L19, k19, n19⟩, -, X19, ⟨Lc19, hQ19, l19, y19, z19⟩, st19⟩ := X13.specialBack hx (y := (⟨"java/lang/String", "<init>", "([C)V"⟩ : MethodName)) rfl hown (mvT hZ (hw _ (List.mem_of_getElem? (i := 17) rfl))) (mvT hZ (hw _ (List.mem_of_getElem? (i := 18) rfl))) (mvT hZ (hw _ (List.mem_of_getElem? (i := 19) rfl))) (by decide) (StrChars.Road.backV (W := 1) hZ (own_ws hw) (kI := 4) (hw _ (List.mem_of_getElem? (i := 14) rfl)) (cs := ([cx, cy] : List Int32)) (bs := ([cx, cy] : List Int32).map (fun c => c.toInt8.toInt32)) (n := 2) ge_b10 Z13 c15 c16 c17 Kc14 c18 hz rfl rfl (by decide) (by decide) hp14 rfl (by decide) (by decide)) (g := (mkF m 79 #[.val (.int q), .val (.int (q &&& (3 : Int32))), .val (.int cx), .val (.int cy), .val (.int cz)] [(.ref b11), (.ref b10), (.ref b10)])) rfl (by rw [hml]; rfl) (Steps.refl _) (a := b10) (argsL := [(.ref b11)]) (rest := [(.ref b10)]) (lenOf pd_4 rfl) rfl (by show 2 * 0 + _ ≤ _; exact Nat.le_of_eq rfl) (hb hby d3_79) (fun _ _ => ⟨rfl, e13, (by decide : 2 + 1 ≤ _), (by decide : 6 + 2 ≤ _)⟩)
          dsimp only [Pt.U, Pt.locs, Pt.cells, Pt.slots] at X19 l19 y19 z19 st19 hQ19
          subst l19 y19 z19
          obtain ⟨rfl, N19q, K19, qe19, qc19, t19, kb19, -, -, -, qv19, qa19⟩ := hQ19
          have N19 := Fr.app N13 N19q
          have T_19 : Str Z T19.heap b10 [cx, cy] := ⟨t19, kb19, qe19, qc19, qv19, qa19⟩
          have C19 := CHv.keep K19 (sfS (own_blank (EL := own_EL) hZ.alike c15 c16) sf0) C13
          have R19 := R13.trans (CHr.keep K19 (sfS (own_blank (EL := own_EL) hZ.alike c15 c16) sf0) C13)
          have hk19 := Nat.le_trans hk13 K19.1
          have Z19 : n0 ≤ T19.heap.size := Nat.le_trans Z13 K19.1
          have KK19 : Keep h0 T19.heap [] := (KK13).trans K19 (allS (Or.inr sz_b10) all0)
          refine Done.st (B := T19.setTop (mkF m 82 #[.val (.int q), .val (.int (q &&& (3 : Int32))), .val (.int cx), .val (.int cy), .val (.int cz)] [(.ref b10)])) (fun _ k => st19.trans k) ?_
          obtain ⟨fs, hr, hrun, hended, hWW⟩ := X19.leaveW hS0 hk19 (v := some (.ref b10)) (hlocks := hlk) (fun h => by rw [Bd.returns] at h; cases h)
          refine Done.fin (retR X19 hx Bd.returns rfl rfl (hb hby d3_82) hr) hrun hended ⟨_, _, rfl, ?_, ?_, hWW.1, hWW.2.1, hWW.2.2.1, hWW.2.2.2.mono (by decide) (by decide)⟩
          rotate_left
          · show CHr Z own_EL s.vm s.heap T19.vm T19.heap
            rw [hh]
            exact R19.trans (CHv.at X19 hZ hEL C19)
          show QrmM Z q z h0 n0 _ T19.heap _
          exact ⟨b10, rfl, N19, sz_b10, KK19, by have z := T_19; rw [h_cx, h_cy] at z; simpa [own_mc, own_cs, hc35, hc51, hc61] using z⟩
        · refine Done.st (B := s₁.setTop (mkF m 83 #[.val (.int q), .val (.int (q &&& (3 : Int32))), .val (.int cx), .val (.int cy), .val (.int cz)] [])) (fun _ k => XS.icmpYes X0.here hx rfl (pc0 := 61) (pc' := 83) rfl (hb hby d3_61) rfl (feq hc61).2 (by decide) (by decide) k) ?_
          obtain ⟨T21, h21, X21, e21, E21, A21, D21, -, st21⟩ := newO X0 hx hZ hown (hw _ (List.mem_of_getElem? (i := 13) rfl)) (hw _ (List.mem_of_getElem? (i := 14) rfl)) (hw _ (List.mem_of_getElem? (i := 15) rfl)) e0 (g := (mkF m 83 #[.val (.int q), .val (.int (q &&& (3 : Int32))), .val (.int cx), .val (.int cy), .val (.int cz)] [])) rfl (hb hby d3_83) (by decide) (by decide)
          obtain ⟨b21, g21⟩ : ∃ z, z = h0.size := ⟨_, rfl⟩
          rw [← g21] at A21 D21 st21
          have ge_b21 : n0 ≤ b21 := Nat.le_trans Z0 (Nat.le_of_eq g21.symm)
          have sz_b21 : h0.size ≤ b21 := Nat.le_trans ((Keep.refl h0 [])).1 (Nat.le_of_eq g21.symm)
          have Z21 : n0 ≤ h21.size := Nat.le_trans Z0 E21.1
          have F21_value : Fld Z h21 b21 "java/lang/String" "value" "[B" .null := D21 (Or.inr (hw _ (List.mem_of_getElem? (i := 29) rfl))) (ty := (.array .byte)) (by decide)
          have F21_coder : Fld Z h21 b21 "java/lang/String" "coder" "B" (.int (0 : Int32)) := D21 (Or.inr (hw _ (List.mem_of_getElem? (i := 30) rfl))) (ty := .byte) (by decide)
          have C21 := CHv.ext E21 hC0
          have R21 := R0.trans (CHr.ext E21 hC0)
          have hk21 := Nat.le_trans hk0 E21.1
          have KK21 : Keep h0 h21 [] := ((Keep.refl h0 [])).ext E21
          refine Done.st (B := T21.setTop (mkF m 86 #[.val (.int q), .val (.int (q &&& (3 : Int32))), .val (.int cx), .val (.int cy), .val (.int cz)] [(.ref b21)])) (fun _ k => st21 _ k) ?_
          refine Done.st (B := T21.setTop (mkF m 87 #[.val (.int q), .val (.int (q &&& (3 : Int32))), .val (.int cx), .val (.int cy), .val (.int cz)] [(.ref b21), (.ref b21)])) (fun _ k => XS.dup X21.here hx rfl (hb hby d3_86) rfl rfl k) ?_
          refine Done.st (B := T21.setTop (mkF m 88 #[.val (.int q), .val (.int (q &&& (3 : Int32))), .val (.int cx), .val (.int cy), .val (.int cz)] [(.int (3 : Int32)), (.ref b21), (.ref b21)])) (fun _ k => XS.iconst X21.here hx rfl (hb hby d3_87) k) ?_
          obtain ⟨T22, h22, k22, X22, e22, E22, A22, st22⟩ := newP X21 hx hZ (hw _ (List.mem_of_getElem? (i := 16) rfl)) e21 (g := (mkF m 88 #[.val (.int q), .val (.int (q &&& (3 : Int32))), .val (.int cx), .val (.int cy), .val (.int cz)] [(.int (3 : Int32)), (.ref b21), (.ref b21)])) rfl (hb hby d3_88) rfl (by decide) (cap := 3) (by decide) (by decide) (by decide) (by decide)
          obtain ⟨b22, g22⟩ : ∃ z, z = h21.size := ⟨_, rfl⟩
          rw [← g22] at A22 st22
          have ne_b21_b22 : b21 ≠ b22 := Nat.ne_of_lt (Nat.lt_of_lt_of_le A21.lt (Nat.le_of_eq g22.symm))
          have ge_b22 : n0 ≤ b22 := Nat.le_trans Z21 (Nat.le_of_eq g22.symm)
          have sz_b22 : h0.size ≤ b22 := Nat.le_trans (KK21).1 (Nat.le_of_eq g22.symm)
          have Z22 : n0 ≤ h22.size := Nat.le_trans Z21 E22.1
          have V22 : Arv Z h22 b22 k22 .char (3 : Int32) [(.int (0 : Int32)), (.int (0 : Int32)), (.int (0 : Int32))] (.int (0 : Int32)) := (Arv.new A22 (by decide)).pad (pad_rep [] (.int (0 : Int32)) 3)
          have C22 := CHv.ext E22 C21
          have R22 := R21.trans (CHr.ext E22 C21)
          have hk22 := Nat.le_trans hk21 E22.1
          have KK22 : Keep h0 h22 [] := (KK21).ext E22
          refine Done.st (B := T22.setTop (mkF m 90 #[.val (.int q), .val (.int (q &&& (3 : Int32))), .val (.int cx), .val (.int cy), .val (.int cz)] [(.ref b22), (.ref b21), (.ref b21)])) (fun _ k => st22 _ k) ?_
          refine Done.st (B := T22.setTop (mkF m 91 #[.val (.int q), .val (.int (q &&& (3 : Int32))), .val (.int cx), .val (.int cy), .val (.int cz)] [(.ref b22), (.ref b22), (.ref b21), (.ref b21)])) (fun _ k => XS.dup X22.here hx rfl (hb hby d3_90) rfl rfl k) ?_
          refine Done.st (B := T22.setTop (mkF m 92 #[.val (.int q), .val (.int (q &&& (3 : Int32))), .val (.int cx), .val (.int cy), .val (.int cz)] [(.int (0 : Int32)), (.ref b22), (.ref b22), (.ref b21), (.ref b21)])) (fun _ k => XS.iconst X22.here hx rfl (hb hby d3_91) k) ?_
          refine Done.st (B := T22.setTop (mkF m 93 #[.val (.int q), .val (.int (q &&& (3 : Int32))), .val (.int cx), .val (.int cy), .val (.int cz)] [(.int cx), (.int (0 : Int32)), (.ref b22), (.ref b22), (.ref b21), (.ref b21)])) (fun _ k => XS.iloadN X22.here hx rfl (hb hby d3_92) rfl k) ?_
          obtain ⟨cl23, Ar23, q23, S23, M23, H23, G23⟩ := id V22
          have hin23 : ¬ ((0 : Int32) < 0 ∨ cl23.slots.size ≤ ((0 : Int32)).toNatClampNeg) := inb_of S23 ⟨by decide, by decide⟩
          obtain ⟨T23, h23, X23, e23, W23, st23⟩ := stC X22 hx hZ e22 Ar23 (j := (0 : Int32)) hin23 (g := (mkF m 93 #[.val (.int q), .val (.int (q &&& (3 : Int32))), .val (.int cx), .val (.int cy), .val (.int cz)] [(.int cx), (.int (0 : Int32)), (.ref b22), (.ref b22), (.ref b21), (.ref b21)])) rfl rfl (hb hby d3_93)
          have V23 : Arv Z h23 b22 k22 .char (3 : Int32) [(.int (nar .char cx)), (.int (0 : Int32)), (.int (0 : Int32))] (.int (0 : Int32)) := Arv.set Ar23 q23 S23 M23 H23 G23 (fits_nar_char _) W23 0 rfl (Nat.le_of_ble_eq_true rfl)
          have N23 := Fr.snoc X23 N0 ge_b22
          have Z23 : n0 ≤ h23.size := Nat.le_trans Z22 (Keep.of_wr W23).1
          have C23 := CHv.wr W23 (Safe.arv (EL := own_EL) hZ.alike V22 (by decide)) C22
          have R23 := R22.trans (CHr.wr W23 (Safe.arv (EL := own_EL) hZ.alike V22 (by decide)) C22)
          have hk23 := Nat.le_trans hk22 (Keep.of_wr W23).1
          have sf23 := Safe.wr W23 (Safe.arv (EL := own_EL) hZ.alike V22 (by decide)) C22 (Safe.arv (EL := own_EL) hZ.alike V22 (by decide))
          have KK23 : Keep h0 h23 [] := (KK22).wr W23 (Or.inr sz_b22)
          refine Done.st (B := T23.setTop (mkF m 94 #[.val (.int q), .val (.int (q &&& (3 : Int32))), .val (.int cx), .val (.int cy), .val (.int cz)] [(.ref b22), (.ref b21), (.ref b21)])) (fun _ k => st23 _ k) ?_
          refine Done.st (B := T23.setTop (mkF m 95 #[.val (.int q), .val (.int (q &&& (3 : Int32))), .val (.int cx), .val (.int cy), .val (.int cz)] [(.ref b22), (.ref b22), (.ref b21), (.ref b21)])) (fun _ k => XS.dup X23.here hx rfl (hb hby d3_94) rfl rfl k) ?_
          refine Done.st (B := T23.setTop (mkF m 96 #[.val (.int q), .val (.int (q &&& (3 : Int32))), .val (.int cx), .val (.int cy), .val (.int cz)] [(.int (1 : Int32)), (.ref b22), (.ref b22), (.ref b21), (.ref b21)])) (fun _ k => XS.iconst X23.here hx rfl (hb hby d3_95) k) ?_
          refine Done.st (B := T23.setTop (mkF m 97 #[.val (.int q), .val (.int (q &&& (3 : Int32))), .val (.int cx), .val (.int cy), .val (.int cz)] [(.int cy), (.int (1 : Int32)), (.ref b22), (.ref b22), (.ref b21), (.ref b21)])) (fun _ k => XS.iloadN X23.here hx rfl (hb hby d3_96) rfl k) ?_
          obtain ⟨cl24, Ar24, q24, S24, M24, H24, G24⟩ := id V23
          have hin24 : ¬ ((1 : Int32) < 0 ∨ cl24.slots.size ≤ ((1 : Int32)).toNatClampNeg) := inb_of S24 ⟨by decide, by decide⟩
          obtain ⟨T24, h24, X24, e24, W24, st24⟩ := stC X23 hx hZ e23 Ar24 (j := (1 : Int32)) hin24 (g := (mkF m 97 #[.val (.int q), .val (.int (q &&& (3 : Int32))), .val (.int cx), .val (.int cy), .val (.int cz)] [(.int cy), (.int (1 : Int32)), (.ref b22), (.ref b22), (.ref b21), (.ref b21)])) rfl rfl (hb hby d3_97)
          have V24 : Arv Z h24 b22 k22 .char (3 : Int32) [(.int (nar .char cx)), (.int (nar .char cy)), (.int (0 : Int32))] (.int (0 : Int32)) := Arv.set Ar24 q24 S24 M24 H24 G24 (fits_nar_char _) W24 1 rfl (Nat.le_of_ble_eq_true rfl)
          have N24 := Fr.snoc X24 N23 ge_b22
          have Z24 : n0 ≤ h24.size := Nat.le_trans Z23 (Keep.of_wr W24).1
          have C24 := CHv.wr W24 sf23 C23
          have R24 := R23.trans (CHr.wr W24 sf23 C23)
          have hk24 := Nat.le_trans hk23 (Keep.of_wr W24).1
          have sf24 := Safe.wr W24 sf23 C23 sf23
          have KK24 : Keep h0 h24 [] := (KK23).wr W24 (Or.inr sz_b22)
          refine Done.st (B := T24.setTop (mkF m 98 #[.val (.int q), .val (.int (q &&& (3 : Int32))), .val (.int cx), .val (.int cy), .val (.int cz)] [(.ref b22), (.ref b21), (.ref b21)])) (fun _ k => st24 _ k) ?_
          refine Done.st (B := T24.setTop (mkF m 99 #[.val (.int q), .val (.int (q &&& (3 : Int32))), .val (.int cx), .val (.int cy), .val (.int cz)] [(.ref b22), (.ref b22), (.ref b21), (.ref b21)])) (fun _ k => XS.dup X24.here hx rfl (hb hby d3_98) rfl rfl k) ?_
          refine Done.st (B := T24.setTop (mkF m 100 #[.val (.int q), .val (.int (q &&& (3 : Int32))), .val (.int cx), .val (.int cy), .val (.int cz)] [(.int (2 : Int32)), (.ref b22), (.ref b22), (.ref b21), (.ref b21)])) (fun _ k => XS.iconst X24.here hx rfl (hb hby d3_99) k) ?_
          refine Done.st (B := T24.setTop (mkF m 102 #[.val (.int q), .val (.int (q &&& (3 : Int32))), .val (.int cx), .val (.int cy), .val (.int cz)] [(.int cz), (.int (2 : Int32)), (.ref b22), (.ref b22), (.ref b21), (.ref b21)])) (fun _ k => XS.iload X24.here hx rfl (hb hby d3_100) rfl k) ?_
          obtain ⟨cl25, Ar25, q25, S25, M25, H25, G25⟩ := id V24
          have hin25 : ¬ ((2 : Int32) < 0 ∨ cl25.slots.size ≤ ((2 : Int32)).toNatClampNeg) := inb_of S25 ⟨by decide, by decide⟩
          obtain ⟨T25, h25, X25, e25, W25, st25⟩ := stC X24 hx hZ e24 Ar25 (j := (2 : Int32)) hin25 (g := (mkF m 102 #[.val (.int q), .val (.int (q &&& (3 : Int32))), .val (.int cx), .val (.int cy), .val (.int cz)] [(.int cz), (.int (2 : Int32)), (.ref b22), (.ref b22), (.ref b21), (.ref b21)])) rfl rfl (hb hby d3_102)
          have V25 : Arv Z h25 b22 k22 .char (3 : Int32) [(.int (nar .char cx)), (.int (nar .char cy)), (.int (nar .char cz))] (.int (0 : Int32)) := Arv.set Ar25 q25 S25 M25 H25 G25 (fits_nar_char _) W25 2 rfl (Nat.le_of_ble_eq_true rfl)
          have N25 := Fr.snoc X25 N24 ge_b22
          have Z25 : n0 ≤ h25.size := Nat.le_trans Z24 (Keep.of_wr W25).1
          have C25 := CHv.wr W25 sf24 C24
          have R25 := R24.trans (CHr.wr W25 sf24 C24)
          have hk25 := Nat.le_trans hk24 (Keep.of_wr W25).1
          have sf25 := Safe.wr W25 sf24 C24 sf24
          have KK25 : Keep h0 h25 [] := (KK24).wr W25 (Or.inr sz_b22)
          refine Done.st (B := T25.setTop (mkF m 103 #[.val (.int q), .val (.int (q &&& (3 : Int32))), .val (.int cx), .val (.int cy), .val (.int cz)] [(.ref b22), (.ref b21), (.ref b21)])) (fun _ k => st25 _ k) ?_
          have Kc26 : Arv Z h25 b22 k22 .char (3 : Int32) (([cx, cy, cz] : List Int32).map Value.int) (.int (0 : Int32)) := by
            have z := V25
            simp only [own_nar (x := cx) (own_b8ok (by rw [h_cx]; exact own_cc8 _ _)), own_nar (x := cy) (own_b8ok (by rw [h_cy]; exact own_cc8 _ _)), own_nar (x := cz) (own_b8ok (by rw [h_cz]; exact own_cc8 _ _))] at z
            exact z
          have hp26 : ∀ c ∈ ([cx, cy, cz] : List Int32), ¬ c < 0 ∧ ¬ (255 : Int32) < c := by
            intro c hc
            simp only [List.mem_cons, List.not_mem_nil, or_false] at hc
            rcases hc with rfl | rfl | rfl
            · exact (own_b8ok (by rw [h_cx]; exact own_cc8 _ _))
            · exact (own_b8ok (by rw [h_cy]; exact own_cc8 _ _))
            · exact (own_b8ok (by rw [h_cz]; exact own_cc8 _ _))
          have c27 := (Exa.wr W25 (Exa.wr W24 (Exa.wr W23 (Exa.ext E22 A21))))
          have c28 := (Fld.other W25 (Fld.other W24 (Fld.other W23 (Fld.ext E22 F21_value) (Or.inl ne_b21_b22)) (Or.inl ne_b21_b22)) (Or.inl ne_b21_b22))
          have c29 := (Fld.other W25 (Fld.other W24 (Fld.other W23 (Fld.ext E22 F21_coder) (Or.inl ne_b21_b22)) (Or.inl ne_b21_b22)) (Or.inl ne_b21_b22))
          have c30 := (Sta.wr W25 (Sta.wr W24 (Sta.wr W23 (Sta.ext E22 (Sta.ext E21 S_z)))))
          obtain ⟨_, _, ⟨T31, L31, k31, n31⟩, -, X31, ⟨Lc31, hQ31, l31, y31, z31⟩, st31⟩ := X25.specialBack hx (y := (⟨"java/lang/String", "<init>", "([C)V"⟩ : MethodName)) rfl hown (mvT hZ (hw _ (List.mem_of_getElem? (i := 17) rfl))) (mvT hZ (hw _ (List.mem_of_getElem? (i := 18) rfl))) (mvT hZ (hw _ (List.mem_of_getElem? (i := 19) rfl))) (by decide) (StrChars.Road.backV (W := 1) hZ (own_ws hw) (kI := 4) (hw _ (List.mem_of_getElem? (i := 14) rfl)) (cs := ([cx, cy, cz] : List Int32)) (bs := ([cx, cy, cz] : List Int32).map (fun c => c.toInt8.toInt32)) (n := 3) ge_b21 Z25 c27 c28 c29 Kc26 c30 hz rfl rfl (by decide) (by decide) hp26 rfl (by decide) (by decide)) (g := (mkF m 103 #[.val (.int q), .val (.int (q &&& (3 : Int32))), .val (.int cx), .val (.int cy), .val (.int cz)] [(.ref b22), (.ref b21), (.ref b21)])) rfl (by rw [hml]; rfl) (Steps.refl _) (a := b21) (argsL := [(.ref b22)]) (rest := [(.ref b21)]) (lenOf pd_4 rfl) rfl (by show 2 * 0 + _ ≤ _; exact Nat.le_of_eq rfl) (hb hby d3_103) (fun _ _ => ⟨rfl, e25, (by decide : 2 + 1 ≤ _), (by decide : 7 + 3 ≤ _)⟩)
          dsimp only [Pt.U, Pt.locs, Pt.cells, Pt.slots] at X31 l31 y31 z31 st31 hQ31
          subst l31 y31 z31
          obtain ⟨rfl, N31q, K31, qe31, qc31, t31, kb31, -, -, -, qv31, qa31⟩ := hQ31
          have N31 := Fr.app N25 N31q
          have T_31 : Str Z T31.heap b21 [cx, cy, cz] := ⟨t31, kb31, qe31, qc31, qv31, qa31⟩
          have C31 := CHv.keep K31 (sfS (own_blank (EL := own_EL) hZ.alike c27 c28) sf0) C25
          have R31 := R25.trans (CHr.keep K31 (sfS (own_blank (EL := own_EL) hZ.alike c27 c28) sf0) C25)
          have hk31 := Nat.le_trans hk25 K31.1
          have Z31 : n0 ≤ T31.heap.size := Nat.le_trans Z25 K31.1
          have KK31 : Keep h0 T31.heap [] := (KK25).trans K31 (allS (Or.inr sz_b21) all0)
          refine Done.st (B := T31.setTop (mkF m 106 #[.val (.int q), .val (.int (q &&& (3 : Int32))), .val (.int cx), .val (.int cy), .val (.int cz)] [(.ref b21)])) (fun _ k => st31.trans k) ?_
          obtain ⟨fs, hr, hrun, hended, hWW⟩ := X31.leaveW hS0 hk31 (v := some (.ref b21)) (hlocks := hlk) (fun h => by rw [Bd.returns] at h; cases h)
          refine Done.fin (retR X31 hx Bd.returns rfl rfl (hb hby d3_106) hr) hrun hended ⟨_, _, rfl, ?_, ?_, hWW.1, hWW.2.1, hWW.2.2.1, hWW.2.2.2.mono (by decide) (by decide)⟩
          rotate_left
          · show CHr Z own_EL s.vm s.heap T31.vm T31.heap
            rw [hh]
            exact R31.trans (CHv.at X31 hZ hEL C31)
          show QrmM Z q z h0 n0 _ T31.heap _
          exact ⟨b21, rfl, N31, sz_b21, KK31, by have z := T_31; rw [h_cx, h_cy, h_cz] at z; simpa [own_mc, own_cs, hc35, hc51, hc61] using z⟩
  refine Done.st (B := s₁.setTop (mkF m 34 #[.val (.int q), .val (.int (q &&& (3 : Int32))), .val (.int ((((q.toUInt32 >>> ((2 : Int32) &&& 31).toUInt32).toInt32) &&& (255 : Int32)).toUInt32.toUInt16.toUInt32.toInt32)), .val (.int ((((q.toUInt32 >>> ((10 : Int32) &&& 31).toUInt32).toInt32) &&& (255 : Int32)).toUInt32.toUInt16.toUInt32.toInt32)), .val (.int ((((q.toUInt32 >>> ((18 : Int32) &&& 31).toUInt32).toInt32) &&& (255 : Int32)).toUInt32.toUInt16.toUInt32.toInt32))] [])) (fun _ k => XS.istore X0.here hx rfl (hb hby d3_32) rfl (l' := #[.val (.int q), .val (.int (q &&& (3 : Int32))), .val (.int ((((q.toUInt32 >>> ((2 : Int32) &&& 31).toUInt32).toInt32) &&& (255 : Int32)).toUInt32.toUInt16.toUInt32.toInt32)), .val (.int ((((q.toUInt32 >>> ((10 : Int32) &&& 31).toUInt32).toInt32) &&& (255 : Int32)).toUInt32.toUInt16.toUInt32.toInt32)), .val (.int ((((q.toUInt32 >>> ((18 : Int32) &&& 31).toUInt32).toInt32) &&& (255 : Int32)).toUInt32.toUInt16.toUInt32.toInt32))]) rfl k) ?_
  exact j34 ((((q.toUInt32 >>> ((2 : Int32) &&& 31).toUInt32).toInt32) &&& (255 : Int32)).toUInt32.toUInt16.toUInt32.toInt32) ((((q.toUInt32 >>> ((10 : Int32) &&& 31).toUInt32).toInt32) &&& (255 : Int32)).toUInt32.toUInt16.toUInt32.toInt32) ((((q.toUInt32 >>> ((18 : Int32) &&& 31).toUInt32).toInt32) &&& (255 : Int32)).toUInt32.toUInt16.toUInt32.toInt32) (own_icc _ _) (own_icc _ _) (own_icc _ _)
theorem ef_rmKey (m : MethodId) (q : Int32) : entryFrame m #[(.int q)] 3 = mkF m 0 #[.val (.int q), .unset, .unset] [] := by first | (simp [entryFrame, mkF, argsToLocals, Value.category]; done) | rfl
def QrmKey (Z : State) (q : Int32) (h0 : Heap) (n0 : Nat) (v : Option Value) (h : Heap) (L : List Loc) : Prop := v = some (.int (own_key q)) ∧ Fr n0 L ∧ h = h0
def PrmKey (s : State) (Z : State) (q : Int32) (h0 : Heap) (n0 : Nat) : State → Outcome → Prop := fun U' o => ∃ v L, o = .returned v ∧ QrmKey Z q h0 n0 v U'.heap L ∧ FrameEnd s o U' L ({ frames := 0, cells := 0, slots := 0, locals := 0 } : Room).cells ({ frames := 0, cells := 0, slots := 0, locals := 0 } : Room).slots
set_option maxRecDepth 65536 in
set_option maxHeartbeats 40000000 in
theorem rmKey (l : Launch) (Z : State) (a0 : Array Value) (hw : ∀ d ∈ tables_1, d.before a0 Z = true) (ws : List Jvm.Cond) (q : Int32) (h0 : Heap) (n0 : Nat) (Z0 : n0 ≤ h0.size) :
    MetFree l (⟨"com/example/nameward/nameward/model/ClaimsRecordEqualsPinLaw", "key", "(I)I"⟩ : MethodName) (head1 (Jvm.Cond.code (⟨"com/example/nameward/nameward/model/ClaimsRecordEqualsPinLaw", "key", "(I)I"⟩ : MethodName) method_3_code 3 (some .int) :: ws) ({ frames := 0, cells := 0, slots := 0, locals := 0 } : Room)) (fun aa U => aa = #[(.int q)] ∧ Z.Warmed39 U.vm ∧ U.heap = h0) (fun _ _ _ _ _ => True) (fun _ U o U' => ∃ v L, o = .returned v ∧ QrmKey Z q h0 n0 v U'.heap L ∧ FrameEnd U o U' L ({ frames := 0, cells := 0, slots := 0, locals := 0 } : Room).cells ({ frames := 0, cells := 0, slots := 0, locals := 0 } : Room).slots) := by
  refine MetFree.of_bodySF (plainFor_of_name pn_1) hisR ?_
  intro p e s m args below meth c s₁ Bd hml0 hP hK
  obtain ⟨rfl, hZ, hh⟩ := hP
  have hx := Bd.exec
  have hlk : meth.locks = false := by first | exact BodyLoose.notSynchronized Bd | exact Body.notSynchronized Bd
  have hby := Bd.bytes
  have hml : c.maxLocals = 3 := hml0
  have hown : s.vm.findClass "com/example/nameward/nameward/model/ClaimsRecordEqualsPinLaw" = some m.cls := findClass_of_methodNamed Bd.named
  have hnm := (name_of_methodNamed Bd.named Bd.method).1
  have X0 : Stand p l e ({ frames := 0, cells := 0, slots := 0, locals := 0 } : Room) s m #[(.int q)] below meth c s₁ [] 0 0 := Stand.of_body Bd
  have e0 : s₁.heap = h0 := by rw [← hh, Bd.state]; rfl
  have N0 := Fr.nil n0
  show Done p e below (PrmKey s Z q h0 n0) (s₁.setTop (entryFrame m #[(.int q)] 3))
  refine Done.st (B := s₁.setTop (mkF m 0 #[.val (.int q), .unset, .unset] [])) (fun _ k => castTop (ef_rmKey m q) k) ?_
  refine Done.st (B := s₁.setTop (mkF m 1 #[.val (.int q), .unset, .unset] [(.int q)])) (fun _ k => XS.iloadN X0.here hx rfl (hb hby d17_0) rfl k) ?_
  refine Done.st (B := s₁.setTop (mkF m 2 #[.val (.int q), .unset, .unset] [(.int (3 : Int32)), (.int q)])) (fun _ k => XS.iconst X0.here hx rfl (hb hby d17_1) k) ?_
  refine Done.st (B := s₁.setTop (mkF m 3 #[.val (.int q), .unset, .unset] [(.int (q &&& (3 : Int32)))])) (fun _ k => XS.iand X0.here hx rfl (hb hby d17_2) rfl k) ?_
  refine Done.st (B := s₁.setTop (mkF m 4 #[.val (.int q), .val (.int (q &&& (3 : Int32))), .unset] [])) (fun _ k => XS.istoreN X0.here hx rfl (hb hby d17_3) rfl (l' := #[.val (.int q), .val (.int (q &&& (3 : Int32))), .unset]) rfl k) ?_
  refine Done.st (B := s₁.setTop (mkF m 5 #[.val (.int q), .val (.int (q &&& (3 : Int32))), .unset] [(.int (q &&& (3 : Int32)))])) (fun _ k => XS.iloadN X0.here hx rfl (hb hby d17_4) rfl k) ?_
  refine Done.st (B := s₁.setTop (mkF m 6 #[.val (.int q), .val (.int (q &&& (3 : Int32))), .val (.int (q &&& (3 : Int32)))] [])) (fun _ k => XS.istoreN X0.here hx rfl (hb hby d17_5) rfl (l' := #[.val (.int q), .val (.int (q &&& (3 : Int32))), .val (.int (q &&& (3 : Int32)))]) rfl k) ?_
  refine Done.st (B := s₁.setTop (mkF m 7 #[.val (.int q), .val (.int (q &&& (3 : Int32))), .val (.int (q &&& (3 : Int32)))] [(.int (q &&& (3 : Int32)))])) (fun _ k => XS.iloadN X0.here hx rfl (hb hby d17_6) rfl k) ?_
  refine Done.st (B := s₁.setTop (mkF m 8 #[.val (.int q), .val (.int (q &&& (3 : Int32))), .val (.int (q &&& (3 : Int32)))] [(.int (1 : Int32)), (.int (q &&& (3 : Int32)))])) (fun _ k => XS.iconst X0.here hx rfl (hb hby d17_7) k) ?_
  by_cases hc8 : (q &&& (3 : Int32)) < (1 : Int32)
  · refine Done.st (B := s₁.setTop (mkF m 23 #[.val (.int q), .val (.int (q &&& (3 : Int32))), .val (.int (q &&& (3 : Int32)))] [])) (fun _ k => XS.icmpYes X0.here hx rfl (pc0 := 8) (pc' := 23) rfl (hb hby d17_8) rfl (tlt hc8).1 (by decide) (by decide) k) ?_
    refine Done.st (B := s₁.setTop (mkF m 24 #[.val (.int q), .val (.int (q &&& (3 : Int32))), .val (.int (q &&& (3 : Int32)))] [(.int (q &&& (3 : Int32)))])) (fun _ k => XS.iloadN X0.here hx rfl (hb hby d17_23) rfl k) ?_
    refine Done.st (B := s₁.setTop (mkF m 25 #[.val (.int q), .val (.int (q &&& (3 : Int32))), .val (.int (q &&& (3 : Int32)))] [(.int (2 : Int32)), (.int (q &&& (3 : Int32)))])) (fun _ k => XS.iconst X0.here hx rfl (hb hby d17_24) k) ?_
    by_cases hc25 : (q &&& (3 : Int32)) < (2 : Int32)
    · refine Done.st (B := s₁.setTop (mkF m 42 #[.val (.int q), .val (.int (q &&& (3 : Int32))), .val (.int (q &&& (3 : Int32)))] [])) (fun _ k => XS.icmpYes X0.here hx rfl (pc0 := 25) (pc' := 42) rfl (hb hby d17_25) rfl (tlt hc25).1 (by decide) (by decide) k) ?_
      refine Done.st (B := s₁.setTop (mkF m 43 #[.val (.int q), .val (.int (q &&& (3 : Int32))), .val (.int (q &&& (3 : Int32)))] [(.int (q &&& (3 : Int32)))])) (fun _ k => XS.iloadN X0.here hx rfl (hb hby d17_42) rfl k) ?_
      refine Done.st (B := s₁.setTop (mkF m 44 #[.val (.int q), .val (.int (q &&& (3 : Int32))), .val (.int (q &&& (3 : Int32)))] [(.int (3 : Int32)), (.int (q &&& (3 : Int32)))])) (fun _ k => XS.iconst X0.here hx rfl (hb hby d17_43) k) ?_
      by_cases hc44 : (q &&& (3 : Int32)) < (3 : Int32)
      · refine Done.st (B := s₁.setTop (mkF m 61 #[.val (.int q), .val (.int (q &&& (3 : Int32))), .val (.int (q &&& (3 : Int32)))] [])) (fun _ k => XS.icmpYes X0.here hx rfl (pc0 := 44) (pc' := 61) rfl (hb hby d17_44) rfl (tlt hc44).1 (by decide) (by decide) k) ?_
        refine Done.st (B := s₁.setTop (mkF m 62 #[.val (.int q), .val (.int (q &&& (3 : Int32))), .val (.int (q &&& (3 : Int32)))] [(.int (q &&& (3 : Int32)))])) (fun _ k => XS.iloadN X0.here hx rfl (hb hby d17_61) rfl k) ?_
        obtain ⟨fs, hr, hrun, hended, hW, hsame⟩ := X0.leave (v := some (.int (q &&& (3 : Int32)))) (hlocks := hlk) (fun h => by rw [Bd.returns] at h; cases h)
        refine Done.fin (retI X0 hx Bd.returns (hb hby d17_62) hr) hrun hended ⟨_, _, rfl, ?_, ⟨_, rfl⟩, hW, hsame.mono (by decide) (by decide)⟩
        show QrmKey Z q h0 n0 _ s₁.heap _
        rw [e0]
        exact ⟨by simp only [own_key, own_k, own_k1, own_k2, own_k3, own_cc, if_pos hc8, if_pos hc25, if_pos hc44, if_true, if_false], N0, rfl⟩
      · refine Done.st (B := s₁.setTop (mkF m 47 #[.val (.int q), .val (.int (q &&& (3 : Int32))), .val (.int (q &&& (3 : Int32)))] [])) (fun _ k => XS.icmpNo X0.here hx rfl (hb hby d17_44) rfl (flt hc44).1 k) ?_
        refine Done.st (B := s₁.setTop (mkF m 48 #[.val (.int q), .val (.int (q &&& (3 : Int32))), .val (.int (q &&& (3 : Int32)))] [(.int (q &&& (3 : Int32)))])) (fun _ k => XS.iloadN X0.here hx rfl (hb hby d17_47) rfl k) ?_
        refine Done.st (B := s₁.setTop (mkF m 49 #[.val (.int q), .val (.int (q &&& (3 : Int32))), .val (.int (q &&& (3 : Int32)))] [(.int q), (.int (q &&& (3 : Int32)))])) (fun _ k => XS.iloadN X0.here hx rfl (hb hby d17_48) rfl k) ?_
        refine Done.st (B := s₁.setTop (mkF m 51 #[.val (.int q), .val (.int (q &&& (3 : Int32))), .val (.int (q &&& (3 : Int32)))] [(.int (18 : Int32)), (.int q), (.int (q &&& (3 : Int32)))])) (fun _ k => XS.bipush X0.here hx rfl (hb hby d17_49) k) ?_
        refine Done.st (B := s₁.setTop (mkF m 52 #[.val (.int q), .val (.int (q &&& (3 : Int32))), .val (.int (q &&& (3 : Int32)))] [(.int ((q.toUInt32 >>> ((18 : Int32) &&& 31).toUInt32).toInt32)), (.int (q &&& (3 : Int32)))])) (fun _ k => XS.iushr X0.here hx rfl (hb hby d17_51) rfl k) ?_
        refine Done.st (B := s₁.setTop (mkF m 55 #[.val (.int q), .val (.int (q &&& (3 : Int32))), .val (.int (q &&& (3 : Int32)))] [(.int (255 : Int32)), (.int ((q.toUInt32 >>> ((18 : Int32) &&& 31).toUInt32).toInt32)), (.int (q &&& (3 : Int32)))])) (fun _ k => XS.sipush X0.here hx rfl (hb hby d17_52) k) ?_
        refine Done.st (B := s₁.setTop (mkF m 56 #[.val (.int q), .val (.int (q &&& (3 : Int32))), .val (.int (q &&& (3 : Int32)))] [(.int (((q.toUInt32 >>> ((18 : Int32) &&& 31).toUInt32).toInt32) &&& (255 : Int32))), (.int (q &&& (3 : Int32)))])) (fun _ k => XS.iand X0.here hx rfl (hb hby d17_55) rfl k) ?_
        refine Done.st (B := s₁.setTop (mkF m 58 #[.val (.int q), .val (.int (q &&& (3 : Int32))), .val (.int (q &&& (3 : Int32)))] [(.int (18 : Int32)), (.int (((q.toUInt32 >>> ((18 : Int32) &&& 31).toUInt32).toInt32) &&& (255 : Int32))), (.int (q &&& (3 : Int32)))])) (fun _ k => XS.bipush X0.here hx rfl (hb hby d17_56) k) ?_
        refine Done.st (B := s₁.setTop (mkF m 59 #[.val (.int q), .val (.int (q &&& (3 : Int32))), .val (.int (q &&& (3 : Int32)))] [(.int ((((q.toUInt32 >>> ((18 : Int32) &&& 31).toUInt32).toInt32) &&& (255 : Int32)) <<< ((18 : Int32) &&& 31))), (.int (q &&& (3 : Int32)))])) (fun _ k => XS.ishl X0.here hx rfl (hb hby d17_58) rfl k) ?_
        refine Done.st (B := s₁.setTop (mkF m 60 #[.val (.int q), .val (.int (q &&& (3 : Int32))), .val (.int (q &&& (3 : Int32)))] [(.int ((q &&& (3 : Int32)) ||| ((((q.toUInt32 >>> ((18 : Int32) &&& 31).toUInt32).toInt32) &&& (255 : Int32)) <<< ((18 : Int32) &&& 31))))])) (fun _ k => XS.ior X0.here hx rfl (hb hby d17_59) rfl k) ?_
        refine Done.st (B := s₁.setTop (mkF m 61 #[.val (.int q), .val (.int (q &&& (3 : Int32))), .val (.int ((q &&& (3 : Int32)) ||| ((((q.toUInt32 >>> ((18 : Int32) &&& 31).toUInt32).toInt32) &&& (255 : Int32)) <<< ((18 : Int32) &&& 31))))] [])) (fun _ k => XS.istoreN X0.here hx rfl (hb hby d17_60) rfl (l' := #[.val (.int q), .val (.int (q &&& (3 : Int32))), .val (.int ((q &&& (3 : Int32)) ||| ((((q.toUInt32 >>> ((18 : Int32) &&& 31).toUInt32).toInt32) &&& (255 : Int32)) <<< ((18 : Int32) &&& 31))))]) rfl k) ?_
        refine Done.st (B := s₁.setTop (mkF m 62 #[.val (.int q), .val (.int (q &&& (3 : Int32))), .val (.int ((q &&& (3 : Int32)) ||| ((((q.toUInt32 >>> ((18 : Int32) &&& 31).toUInt32).toInt32) &&& (255 : Int32)) <<< ((18 : Int32) &&& 31))))] [(.int ((q &&& (3 : Int32)) ||| ((((q.toUInt32 >>> ((18 : Int32) &&& 31).toUInt32).toInt32) &&& (255 : Int32)) <<< ((18 : Int32) &&& 31))))])) (fun _ k => XS.iloadN X0.here hx rfl (hb hby d17_61) rfl k) ?_
        obtain ⟨fs, hr, hrun, hended, hW, hsame⟩ := X0.leave (v := some (.int ((q &&& (3 : Int32)) ||| ((((q.toUInt32 >>> ((18 : Int32) &&& 31).toUInt32).toInt32) &&& (255 : Int32)) <<< ((18 : Int32) &&& 31))))) (hlocks := hlk) (fun h => by rw [Bd.returns] at h; cases h)
        refine Done.fin (retI X0 hx Bd.returns (hb hby d17_62) hr) hrun hended ⟨_, _, rfl, ?_, ⟨_, rfl⟩, hW, hsame.mono (by decide) (by decide)⟩
        show QrmKey Z q h0 n0 _ s₁.heap _
        rw [e0]
        exact ⟨by simp only [own_key, own_k, own_k1, own_k2, own_k3, own_cc, if_pos hc8, if_pos hc25, if_neg hc44, if_true, if_false], N0, rfl⟩
    · refine Done.st (B := s₁.setTop (mkF m 28 #[.val (.int q), .val (.int (q &&& (3 : Int32))), .val (.int (q &&& (3 : Int32)))] [])) (fun _ k => XS.icmpNo X0.here hx rfl (hb hby d17_25) rfl (flt hc25).1 k) ?_
      refine Done.st (B := s₁.setTop (mkF m 29 #[.val (.int q), .val (.int (q &&& (3 : Int32))), .val (.int (q &&& (3 : Int32)))] [(.int (q &&& (3 : Int32)))])) (fun _ k => XS.iloadN X0.here hx rfl (hb hby d17_28) rfl k) ?_
      refine Done.st (B := s₁.setTop (mkF m 30 #[.val (.int q), .val (.int (q &&& (3 : Int32))), .val (.int (q &&& (3 : Int32)))] [(.int q), (.int (q &&& (3 : Int32)))])) (fun _ k => XS.iloadN X0.here hx rfl (hb hby d17_29) rfl k) ?_
      refine Done.st (B := s₁.setTop (mkF m 32 #[.val (.int q), .val (.int (q &&& (3 : Int32))), .val (.int (q &&& (3 : Int32)))] [(.int (10 : Int32)), (.int q), (.int (q &&& (3 : Int32)))])) (fun _ k => XS.bipush X0.here hx rfl (hb hby d17_30) k) ?_
      refine Done.st (B := s₁.setTop (mkF m 33 #[.val (.int q), .val (.int (q &&& (3 : Int32))), .val (.int (q &&& (3 : Int32)))] [(.int ((q.toUInt32 >>> ((10 : Int32) &&& 31).toUInt32).toInt32)), (.int (q &&& (3 : Int32)))])) (fun _ k => XS.iushr X0.here hx rfl (hb hby d17_32) rfl k) ?_
      refine Done.st (B := s₁.setTop (mkF m 36 #[.val (.int q), .val (.int (q &&& (3 : Int32))), .val (.int (q &&& (3 : Int32)))] [(.int (255 : Int32)), (.int ((q.toUInt32 >>> ((10 : Int32) &&& 31).toUInt32).toInt32)), (.int (q &&& (3 : Int32)))])) (fun _ k => XS.sipush X0.here hx rfl (hb hby d17_33) k) ?_
      refine Done.st (B := s₁.setTop (mkF m 37 #[.val (.int q), .val (.int (q &&& (3 : Int32))), .val (.int (q &&& (3 : Int32)))] [(.int (((q.toUInt32 >>> ((10 : Int32) &&& 31).toUInt32).toInt32) &&& (255 : Int32))), (.int (q &&& (3 : Int32)))])) (fun _ k => XS.iand X0.here hx rfl (hb hby d17_36) rfl k) ?_
      refine Done.st (B := s₁.setTop (mkF m 39 #[.val (.int q), .val (.int (q &&& (3 : Int32))), .val (.int (q &&& (3 : Int32)))] [(.int (10 : Int32)), (.int (((q.toUInt32 >>> ((10 : Int32) &&& 31).toUInt32).toInt32) &&& (255 : Int32))), (.int (q &&& (3 : Int32)))])) (fun _ k => XS.bipush X0.here hx rfl (hb hby d17_37) k) ?_
      refine Done.st (B := s₁.setTop (mkF m 40 #[.val (.int q), .val (.int (q &&& (3 : Int32))), .val (.int (q &&& (3 : Int32)))] [(.int ((((q.toUInt32 >>> ((10 : Int32) &&& 31).toUInt32).toInt32) &&& (255 : Int32)) <<< ((10 : Int32) &&& 31))), (.int (q &&& (3 : Int32)))])) (fun _ k => XS.ishl X0.here hx rfl (hb hby d17_39) rfl k) ?_
      refine Done.st (B := s₁.setTop (mkF m 41 #[.val (.int q), .val (.int (q &&& (3 : Int32))), .val (.int (q &&& (3 : Int32)))] [(.int ((q &&& (3 : Int32)) ||| ((((q.toUInt32 >>> ((10 : Int32) &&& 31).toUInt32).toInt32) &&& (255 : Int32)) <<< ((10 : Int32) &&& 31))))])) (fun _ k => XS.ior X0.here hx rfl (hb hby d17_40) rfl k) ?_
      refine Done.st (B := s₁.setTop (mkF m 42 #[.val (.int q), .val (.int (q &&& (3 : Int32))), .val (.int ((q &&& (3 : Int32)) ||| ((((q.toUInt32 >>> ((10 : Int32) &&& 31).toUInt32).toInt32) &&& (255 : Int32)) <<< ((10 : Int32) &&& 31))))] [])) (fun _ k => XS.istoreN X0.here hx rfl (hb hby d17_41) rfl (l' := #[.val (.int q), .val (.int (q &&& (3 : Int32))), .val (.int ((q &&& (3 : Int32)) ||| ((((q.toUInt32 >>> ((10 : Int32) &&& 31).toUInt32).toInt32) &&& (255 : Int32)) <<< ((10 : Int32) &&& 31))))]) rfl k) ?_
      refine Done.st (B := s₁.setTop (mkF m 43 #[.val (.int q), .val (.int (q &&& (3 : Int32))), .val (.int ((q &&& (3 : Int32)) ||| ((((q.toUInt32 >>> ((10 : Int32) &&& 31).toUInt32).toInt32) &&& (255 : Int32)) <<< ((10 : Int32) &&& 31))))] [(.int (q &&& (3 : Int32)))])) (fun _ k => XS.iloadN X0.here hx rfl (hb hby d17_42) rfl k) ?_
      refine Done.st (B := s₁.setTop (mkF m 44 #[.val (.int q), .val (.int (q &&& (3 : Int32))), .val (.int ((q &&& (3 : Int32)) ||| ((((q.toUInt32 >>> ((10 : Int32) &&& 31).toUInt32).toInt32) &&& (255 : Int32)) <<< ((10 : Int32) &&& 31))))] [(.int (3 : Int32)), (.int (q &&& (3 : Int32)))])) (fun _ k => XS.iconst X0.here hx rfl (hb hby d17_43) k) ?_
      by_cases hc44 : (q &&& (3 : Int32)) < (3 : Int32)
      · refine Done.st (B := s₁.setTop (mkF m 61 #[.val (.int q), .val (.int (q &&& (3 : Int32))), .val (.int ((q &&& (3 : Int32)) ||| ((((q.toUInt32 >>> ((10 : Int32) &&& 31).toUInt32).toInt32) &&& (255 : Int32)) <<< ((10 : Int32) &&& 31))))] [])) (fun _ k => XS.icmpYes X0.here hx rfl (pc0 := 44) (pc' := 61) rfl (hb hby d17_44) rfl (tlt hc44).1 (by decide) (by decide) k) ?_
        refine Done.st (B := s₁.setTop (mkF m 62 #[.val (.int q), .val (.int (q &&& (3 : Int32))), .val (.int ((q &&& (3 : Int32)) ||| ((((q.toUInt32 >>> ((10 : Int32) &&& 31).toUInt32).toInt32) &&& (255 : Int32)) <<< ((10 : Int32) &&& 31))))] [(.int ((q &&& (3 : Int32)) ||| ((((q.toUInt32 >>> ((10 : Int32) &&& 31).toUInt32).toInt32) &&& (255 : Int32)) <<< ((10 : Int32) &&& 31))))])) (fun _ k => XS.iloadN X0.here hx rfl (hb hby d17_61) rfl k) ?_
        obtain ⟨fs, hr, hrun, hended, hW, hsame⟩ := X0.leave (v := some (.int ((q &&& (3 : Int32)) ||| ((((q.toUInt32 >>> ((10 : Int32) &&& 31).toUInt32).toInt32) &&& (255 : Int32)) <<< ((10 : Int32) &&& 31))))) (hlocks := hlk) (fun h => by rw [Bd.returns] at h; cases h)
        refine Done.fin (retI X0 hx Bd.returns (hb hby d17_62) hr) hrun hended ⟨_, _, rfl, ?_, ⟨_, rfl⟩, hW, hsame.mono (by decide) (by decide)⟩
        show QrmKey Z q h0 n0 _ s₁.heap _
        rw [e0]
        exact ⟨by simp only [own_key, own_k, own_k1, own_k2, own_k3, own_cc, if_pos hc8, if_neg hc25, if_pos hc44, if_true, if_false], N0, rfl⟩
      · refine Done.st (B := s₁.setTop (mkF m 47 #[.val (.int q), .val (.int (q &&& (3 : Int32))), .val (.int ((q &&& (3 : Int32)) ||| ((((q.toUInt32 >>> ((10 : Int32) &&& 31).toUInt32).toInt32) &&& (255 : Int32)) <<< ((10 : Int32) &&& 31))))] [])) (fun _ k => XS.icmpNo X0.here hx rfl (hb hby d17_44) rfl (flt hc44).1 k) ?_
        refine Done.st (B := s₁.setTop (mkF m 48 #[.val (.int q), .val (.int (q &&& (3 : Int32))), .val (.int ((q &&& (3 : Int32)) ||| ((((q.toUInt32 >>> ((10 : Int32) &&& 31).toUInt32).toInt32) &&& (255 : Int32)) <<< ((10 : Int32) &&& 31))))] [(.int ((q &&& (3 : Int32)) ||| ((((q.toUInt32 >>> ((10 : Int32) &&& 31).toUInt32).toInt32) &&& (255 : Int32)) <<< ((10 : Int32) &&& 31))))])) (fun _ k => XS.iloadN X0.here hx rfl (hb hby d17_47) rfl k) ?_
        refine Done.st (B := s₁.setTop (mkF m 49 #[.val (.int q), .val (.int (q &&& (3 : Int32))), .val (.int ((q &&& (3 : Int32)) ||| ((((q.toUInt32 >>> ((10 : Int32) &&& 31).toUInt32).toInt32) &&& (255 : Int32)) <<< ((10 : Int32) &&& 31))))] [(.int q), (.int ((q &&& (3 : Int32)) ||| ((((q.toUInt32 >>> ((10 : Int32) &&& 31).toUInt32).toInt32) &&& (255 : Int32)) <<< ((10 : Int32) &&& 31))))])) (fun _ k => XS.iloadN X0.here hx rfl (hb hby d17_48) rfl k) ?_
        refine Done.st (B := s₁.setTop (mkF m 51 #[.val (.int q), .val (.int (q &&& (3 : Int32))), .val (.int ((q &&& (3 : Int32)) ||| ((((q.toUInt32 >>> ((10 : Int32) &&& 31).toUInt32).toInt32) &&& (255 : Int32)) <<< ((10 : Int32) &&& 31))))] [(.int (18 : Int32)), (.int q), (.int ((q &&& (3 : Int32)) ||| ((((q.toUInt32 >>> ((10 : Int32) &&& 31).toUInt32).toInt32) &&& (255 : Int32)) <<< ((10 : Int32) &&& 31))))])) (fun _ k => XS.bipush X0.here hx rfl (hb hby d17_49) k) ?_
        refine Done.st (B := s₁.setTop (mkF m 52 #[.val (.int q), .val (.int (q &&& (3 : Int32))), .val (.int ((q &&& (3 : Int32)) ||| ((((q.toUInt32 >>> ((10 : Int32) &&& 31).toUInt32).toInt32) &&& (255 : Int32)) <<< ((10 : Int32) &&& 31))))] [(.int ((q.toUInt32 >>> ((18 : Int32) &&& 31).toUInt32).toInt32)), (.int ((q &&& (3 : Int32)) ||| ((((q.toUInt32 >>> ((10 : Int32) &&& 31).toUInt32).toInt32) &&& (255 : Int32)) <<< ((10 : Int32) &&& 31))))])) (fun _ k => XS.iushr X0.here hx rfl (hb hby d17_51) rfl k) ?_
        refine Done.st (B := s₁.setTop (mkF m 55 #[.val (.int q), .val (.int (q &&& (3 : Int32))), .val (.int ((q &&& (3 : Int32)) ||| ((((q.toUInt32 >>> ((10 : Int32) &&& 31).toUInt32).toInt32) &&& (255 : Int32)) <<< ((10 : Int32) &&& 31))))] [(.int (255 : Int32)), (.int ((q.toUInt32 >>> ((18 : Int32) &&& 31).toUInt32).toInt32)), (.int ((q &&& (3 : Int32)) ||| ((((q.toUInt32 >>> ((10 : Int32) &&& 31).toUInt32).toInt32) &&& (255 : Int32)) <<< ((10 : Int32) &&& 31))))])) (fun _ k => XS.sipush X0.here hx rfl (hb hby d17_52) k) ?_
        refine Done.st (B := s₁.setTop (mkF m 56 #[.val (.int q), .val (.int (q &&& (3 : Int32))), .val (.int ((q &&& (3 : Int32)) ||| ((((q.toUInt32 >>> ((10 : Int32) &&& 31).toUInt32).toInt32) &&& (255 : Int32)) <<< ((10 : Int32) &&& 31))))] [(.int (((q.toUInt32 >>> ((18 : Int32) &&& 31).toUInt32).toInt32) &&& (255 : Int32))), (.int ((q &&& (3 : Int32)) ||| ((((q.toUInt32 >>> ((10 : Int32) &&& 31).toUInt32).toInt32) &&& (255 : Int32)) <<< ((10 : Int32) &&& 31))))])) (fun _ k => XS.iand X0.here hx rfl (hb hby d17_55) rfl k) ?_
        refine Done.st (B := s₁.setTop (mkF m 58 #[.val (.int q), .val (.int (q &&& (3 : Int32))), .val (.int ((q &&& (3 : Int32)) ||| ((((q.toUInt32 >>> ((10 : Int32) &&& 31).toUInt32).toInt32) &&& (255 : Int32)) <<< ((10 : Int32) &&& 31))))] [(.int (18 : Int32)), (.int (((q.toUInt32 >>> ((18 : Int32) &&& 31).toUInt32).toInt32) &&& (255 : Int32))), (.int ((q &&& (3 : Int32)) ||| ((((q.toUInt32 >>> ((10 : Int32) &&& 31).toUInt32).toInt32) &&& (255 : Int32)) <<< ((10 : Int32) &&& 31))))])) (fun _ k => XS.bipush X0.here hx rfl (hb hby d17_56) k) ?_
        refine Done.st (B := s₁.setTop (mkF m 59 #[.val (.int q), .val (.int (q &&& (3 : Int32))), .val (.int ((q &&& (3 : Int32)) ||| ((((q.toUInt32 >>> ((10 : Int32) &&& 31).toUInt32).toInt32) &&& (255 : Int32)) <<< ((10 : Int32) &&& 31))))] [(.int ((((q.toUInt32 >>> ((18 : Int32) &&& 31).toUInt32).toInt32) &&& (255 : Int32)) <<< ((18 : Int32) &&& 31))), (.int ((q &&& (3 : Int32)) ||| ((((q.toUInt32 >>> ((10 : Int32) &&& 31).toUInt32).toInt32) &&& (255 : Int32)) <<< ((10 : Int32) &&& 31))))])) (fun _ k => XS.ishl X0.here hx rfl (hb hby d17_58) rfl k) ?_
        refine Done.st (B := s₁.setTop (mkF m 60 #[.val (.int q), .val (.int (q &&& (3 : Int32))), .val (.int ((q &&& (3 : Int32)) ||| ((((q.toUInt32 >>> ((10 : Int32) &&& 31).toUInt32).toInt32) &&& (255 : Int32)) <<< ((10 : Int32) &&& 31))))] [(.int (((q &&& (3 : Int32)) ||| ((((q.toUInt32 >>> ((10 : Int32) &&& 31).toUInt32).toInt32) &&& (255 : Int32)) <<< ((10 : Int32) &&& 31))) ||| ((((q.toUInt32 >>> ((18 : Int32) &&& 31).toUInt32).toInt32) &&& (255 : Int32)) <<< ((18 : Int32) &&& 31))))])) (fun _ k => XS.ior X0.here hx rfl (hb hby d17_59) rfl k) ?_
        refine Done.st (B := s₁.setTop (mkF m 61 #[.val (.int q), .val (.int (q &&& (3 : Int32))), .val (.int (((q &&& (3 : Int32)) ||| ((((q.toUInt32 >>> ((10 : Int32) &&& 31).toUInt32).toInt32) &&& (255 : Int32)) <<< ((10 : Int32) &&& 31))) ||| ((((q.toUInt32 >>> ((18 : Int32) &&& 31).toUInt32).toInt32) &&& (255 : Int32)) <<< ((18 : Int32) &&& 31))))] [])) (fun _ k => XS.istoreN X0.here hx rfl (hb hby d17_60) rfl (l' := #[.val (.int q), .val (.int (q &&& (3 : Int32))), .val (.int (((q &&& (3 : Int32)) ||| ((((q.toUInt32 >>> ((10 : Int32) &&& 31).toUInt32).toInt32) &&& (255 : Int32)) <<< ((10 : Int32) &&& 31))) ||| ((((q.toUInt32 >>> ((18 : Int32) &&& 31).toUInt32).toInt32) &&& (255 : Int32)) <<< ((18 : Int32) &&& 31))))]) rfl k) ?_
        refine Done.st (B := s₁.setTop (mkF m 62 #[.val (.int q), .val (.int (q &&& (3 : Int32))), .val (.int (((q &&& (3 : Int32)) ||| ((((q.toUInt32 >>> ((10 : Int32) &&& 31).toUInt32).toInt32) &&& (255 : Int32)) <<< ((10 : Int32) &&& 31))) ||| ((((q.toUInt32 >>> ((18 : Int32) &&& 31).toUInt32).toInt32) &&& (255 : Int32)) <<< ((18 : Int32) &&& 31))))] [(.int (((q &&& (3 : Int32)) ||| ((((q.toUInt32 >>> ((10 : Int32) &&& 31).toUInt32).toInt32) &&& (255 : Int32)) <<< ((10 : Int32) &&& 31))) ||| ((((q.toUInt32 >>> ((18 : Int32) &&& 31).toUInt32).toInt32) &&& (255 : Int32)) <<< ((18 : Int32) &&& 31))))])) (fun _ k => XS.iloadN X0.here hx rfl (hb hby d17_61) rfl k) ?_
        obtain ⟨fs, hr, hrun, hended, hW, hsame⟩ := X0.leave (v := some (.int (((q &&& (3 : Int32)) ||| ((((q.toUInt32 >>> ((10 : Int32) &&& 31).toUInt32).toInt32) &&& (255 : Int32)) <<< ((10 : Int32) &&& 31))) ||| ((((q.toUInt32 >>> ((18 : Int32) &&& 31).toUInt32).toInt32) &&& (255 : Int32)) <<< ((18 : Int32) &&& 31))))) (hlocks := hlk) (fun h => by rw [Bd.returns] at h; cases h)
        refine Done.fin (retI X0 hx Bd.returns (hb hby d17_62) hr) hrun hended ⟨_, _, rfl, ?_, ⟨_, rfl⟩, hW, hsame.mono (by decide) (by decide)⟩
        show QrmKey Z q h0 n0 _ s₁.heap _
        rw [e0]
        exact ⟨by simp only [own_key, own_k, own_k1, own_k2, own_k3, own_cc, if_pos hc8, if_neg hc25, if_neg hc44, if_true, if_false], N0, rfl⟩
  · refine Done.st (B := s₁.setTop (mkF m 11 #[.val (.int q), .val (.int (q &&& (3 : Int32))), .val (.int (q &&& (3 : Int32)))] [])) (fun _ k => XS.icmpNo X0.here hx rfl (hb hby d17_8) rfl (flt hc8).1 k) ?_
    refine Done.st (B := s₁.setTop (mkF m 12 #[.val (.int q), .val (.int (q &&& (3 : Int32))), .val (.int (q &&& (3 : Int32)))] [(.int (q &&& (3 : Int32)))])) (fun _ k => XS.iloadN X0.here hx rfl (hb hby d17_11) rfl k) ?_
    refine Done.st (B := s₁.setTop (mkF m 13 #[.val (.int q), .val (.int (q &&& (3 : Int32))), .val (.int (q &&& (3 : Int32)))] [(.int q), (.int (q &&& (3 : Int32)))])) (fun _ k => XS.iloadN X0.here hx rfl (hb hby d17_12) rfl k) ?_
    refine Done.st (B := s₁.setTop (mkF m 14 #[.val (.int q), .val (.int (q &&& (3 : Int32))), .val (.int (q &&& (3 : Int32)))] [(.int (2 : Int32)), (.int q), (.int (q &&& (3 : Int32)))])) (fun _ k => XS.iconst X0.here hx rfl (hb hby d17_13) k) ?_
    refine Done.st (B := s₁.setTop (mkF m 15 #[.val (.int q), .val (.int (q &&& (3 : Int32))), .val (.int (q &&& (3 : Int32)))] [(.int ((q.toUInt32 >>> ((2 : Int32) &&& 31).toUInt32).toInt32)), (.int (q &&& (3 : Int32)))])) (fun _ k => XS.iushr X0.here hx rfl (hb hby d17_14) rfl k) ?_
    refine Done.st (B := s₁.setTop (mkF m 18 #[.val (.int q), .val (.int (q &&& (3 : Int32))), .val (.int (q &&& (3 : Int32)))] [(.int (255 : Int32)), (.int ((q.toUInt32 >>> ((2 : Int32) &&& 31).toUInt32).toInt32)), (.int (q &&& (3 : Int32)))])) (fun _ k => XS.sipush X0.here hx rfl (hb hby d17_15) k) ?_
    refine Done.st (B := s₁.setTop (mkF m 19 #[.val (.int q), .val (.int (q &&& (3 : Int32))), .val (.int (q &&& (3 : Int32)))] [(.int (((q.toUInt32 >>> ((2 : Int32) &&& 31).toUInt32).toInt32) &&& (255 : Int32))), (.int (q &&& (3 : Int32)))])) (fun _ k => XS.iand X0.here hx rfl (hb hby d17_18) rfl k) ?_
    refine Done.st (B := s₁.setTop (mkF m 20 #[.val (.int q), .val (.int (q &&& (3 : Int32))), .val (.int (q &&& (3 : Int32)))] [(.int (2 : Int32)), (.int (((q.toUInt32 >>> ((2 : Int32) &&& 31).toUInt32).toInt32) &&& (255 : Int32))), (.int (q &&& (3 : Int32)))])) (fun _ k => XS.iconst X0.here hx rfl (hb hby d17_19) k) ?_
    refine Done.st (B := s₁.setTop (mkF m 21 #[.val (.int q), .val (.int (q &&& (3 : Int32))), .val (.int (q &&& (3 : Int32)))] [(.int ((((q.toUInt32 >>> ((2 : Int32) &&& 31).toUInt32).toInt32) &&& (255 : Int32)) <<< ((2 : Int32) &&& 31))), (.int (q &&& (3 : Int32)))])) (fun _ k => XS.ishl X0.here hx rfl (hb hby d17_20) rfl k) ?_
    refine Done.st (B := s₁.setTop (mkF m 22 #[.val (.int q), .val (.int (q &&& (3 : Int32))), .val (.int (q &&& (3 : Int32)))] [(.int ((q &&& (3 : Int32)) ||| ((((q.toUInt32 >>> ((2 : Int32) &&& 31).toUInt32).toInt32) &&& (255 : Int32)) <<< ((2 : Int32) &&& 31))))])) (fun _ k => XS.ior X0.here hx rfl (hb hby d17_21) rfl k) ?_
    refine Done.st (B := s₁.setTop (mkF m 23 #[.val (.int q), .val (.int (q &&& (3 : Int32))), .val (.int ((q &&& (3 : Int32)) ||| ((((q.toUInt32 >>> ((2 : Int32) &&& 31).toUInt32).toInt32) &&& (255 : Int32)) <<< ((2 : Int32) &&& 31))))] [])) (fun _ k => XS.istoreN X0.here hx rfl (hb hby d17_22) rfl (l' := #[.val (.int q), .val (.int (q &&& (3 : Int32))), .val (.int ((q &&& (3 : Int32)) ||| ((((q.toUInt32 >>> ((2 : Int32) &&& 31).toUInt32).toInt32) &&& (255 : Int32)) <<< ((2 : Int32) &&& 31))))]) rfl k) ?_
    refine Done.st (B := s₁.setTop (mkF m 24 #[.val (.int q), .val (.int (q &&& (3 : Int32))), .val (.int ((q &&& (3 : Int32)) ||| ((((q.toUInt32 >>> ((2 : Int32) &&& 31).toUInt32).toInt32) &&& (255 : Int32)) <<< ((2 : Int32) &&& 31))))] [(.int (q &&& (3 : Int32)))])) (fun _ k => XS.iloadN X0.here hx rfl (hb hby d17_23) rfl k) ?_
    refine Done.st (B := s₁.setTop (mkF m 25 #[.val (.int q), .val (.int (q &&& (3 : Int32))), .val (.int ((q &&& (3 : Int32)) ||| ((((q.toUInt32 >>> ((2 : Int32) &&& 31).toUInt32).toInt32) &&& (255 : Int32)) <<< ((2 : Int32) &&& 31))))] [(.int (2 : Int32)), (.int (q &&& (3 : Int32)))])) (fun _ k => XS.iconst X0.here hx rfl (hb hby d17_24) k) ?_
    by_cases hc25 : (q &&& (3 : Int32)) < (2 : Int32)
    · refine Done.st (B := s₁.setTop (mkF m 42 #[.val (.int q), .val (.int (q &&& (3 : Int32))), .val (.int ((q &&& (3 : Int32)) ||| ((((q.toUInt32 >>> ((2 : Int32) &&& 31).toUInt32).toInt32) &&& (255 : Int32)) <<< ((2 : Int32) &&& 31))))] [])) (fun _ k => XS.icmpYes X0.here hx rfl (pc0 := 25) (pc' := 42) rfl (hb hby d17_25) rfl (tlt hc25).1 (by decide) (by decide) k) ?_
      refine Done.st (B := s₁.setTop (mkF m 43 #[.val (.int q), .val (.int (q &&& (3 : Int32))), .val (.int ((q &&& (3 : Int32)) ||| ((((q.toUInt32 >>> ((2 : Int32) &&& 31).toUInt32).toInt32) &&& (255 : Int32)) <<< ((2 : Int32) &&& 31))))] [(.int (q &&& (3 : Int32)))])) (fun _ k => XS.iloadN X0.here hx rfl (hb hby d17_42) rfl k) ?_
      refine Done.st (B := s₁.setTop (mkF m 44 #[.val (.int q), .val (.int (q &&& (3 : Int32))), .val (.int ((q &&& (3 : Int32)) ||| ((((q.toUInt32 >>> ((2 : Int32) &&& 31).toUInt32).toInt32) &&& (255 : Int32)) <<< ((2 : Int32) &&& 31))))] [(.int (3 : Int32)), (.int (q &&& (3 : Int32)))])) (fun _ k => XS.iconst X0.here hx rfl (hb hby d17_43) k) ?_
      by_cases hc44 : (q &&& (3 : Int32)) < (3 : Int32)
      · refine Done.st (B := s₁.setTop (mkF m 61 #[.val (.int q), .val (.int (q &&& (3 : Int32))), .val (.int ((q &&& (3 : Int32)) ||| ((((q.toUInt32 >>> ((2 : Int32) &&& 31).toUInt32).toInt32) &&& (255 : Int32)) <<< ((2 : Int32) &&& 31))))] [])) (fun _ k => XS.icmpYes X0.here hx rfl (pc0 := 44) (pc' := 61) rfl (hb hby d17_44) rfl (tlt hc44).1 (by decide) (by decide) k) ?_
        refine Done.st (B := s₁.setTop (mkF m 62 #[.val (.int q), .val (.int (q &&& (3 : Int32))), .val (.int ((q &&& (3 : Int32)) ||| ((((q.toUInt32 >>> ((2 : Int32) &&& 31).toUInt32).toInt32) &&& (255 : Int32)) <<< ((2 : Int32) &&& 31))))] [(.int ((q &&& (3 : Int32)) ||| ((((q.toUInt32 >>> ((2 : Int32) &&& 31).toUInt32).toInt32) &&& (255 : Int32)) <<< ((2 : Int32) &&& 31))))])) (fun _ k => XS.iloadN X0.here hx rfl (hb hby d17_61) rfl k) ?_
        obtain ⟨fs, hr, hrun, hended, hW, hsame⟩ := X0.leave (v := some (.int ((q &&& (3 : Int32)) ||| ((((q.toUInt32 >>> ((2 : Int32) &&& 31).toUInt32).toInt32) &&& (255 : Int32)) <<< ((2 : Int32) &&& 31))))) (hlocks := hlk) (fun h => by rw [Bd.returns] at h; cases h)
        refine Done.fin (retI X0 hx Bd.returns (hb hby d17_62) hr) hrun hended ⟨_, _, rfl, ?_, ⟨_, rfl⟩, hW, hsame.mono (by decide) (by decide)⟩
        show QrmKey Z q h0 n0 _ s₁.heap _
        rw [e0]
        exact ⟨by simp only [own_key, own_k, own_k1, own_k2, own_k3, own_cc, if_neg hc8, if_pos hc25, if_pos hc44, if_true, if_false], N0, rfl⟩
      · refine Done.st (B := s₁.setTop (mkF m 47 #[.val (.int q), .val (.int (q &&& (3 : Int32))), .val (.int ((q &&& (3 : Int32)) ||| ((((q.toUInt32 >>> ((2 : Int32) &&& 31).toUInt32).toInt32) &&& (255 : Int32)) <<< ((2 : Int32) &&& 31))))] [])) (fun _ k => XS.icmpNo X0.here hx rfl (hb hby d17_44) rfl (flt hc44).1 k) ?_
        refine Done.st (B := s₁.setTop (mkF m 48 #[.val (.int q), .val (.int (q &&& (3 : Int32))), .val (.int ((q &&& (3 : Int32)) ||| ((((q.toUInt32 >>> ((2 : Int32) &&& 31).toUInt32).toInt32) &&& (255 : Int32)) <<< ((2 : Int32) &&& 31))))] [(.int ((q &&& (3 : Int32)) ||| ((((q.toUInt32 >>> ((2 : Int32) &&& 31).toUInt32).toInt32) &&& (255 : Int32)) <<< ((2 : Int32) &&& 31))))])) (fun _ k => XS.iloadN X0.here hx rfl (hb hby d17_47) rfl k) ?_
        refine Done.st (B := s₁.setTop (mkF m 49 #[.val (.int q), .val (.int (q &&& (3 : Int32))), .val (.int ((q &&& (3 : Int32)) ||| ((((q.toUInt32 >>> ((2 : Int32) &&& 31).toUInt32).toInt32) &&& (255 : Int32)) <<< ((2 : Int32) &&& 31))))] [(.int q), (.int ((q &&& (3 : Int32)) ||| ((((q.toUInt32 >>> ((2 : Int32) &&& 31).toUInt32).toInt32) &&& (255 : Int32)) <<< ((2 : Int32) &&& 31))))])) (fun _ k => XS.iloadN X0.here hx rfl (hb hby d17_48) rfl k) ?_
        refine Done.st (B := s₁.setTop (mkF m 51 #[.val (.int q), .val (.int (q &&& (3 : Int32))), .val (.int ((q &&& (3 : Int32)) ||| ((((q.toUInt32 >>> ((2 : Int32) &&& 31).toUInt32).toInt32) &&& (255 : Int32)) <<< ((2 : Int32) &&& 31))))] [(.int (18 : Int32)), (.int q), (.int ((q &&& (3 : Int32)) ||| ((((q.toUInt32 >>> ((2 : Int32) &&& 31).toUInt32).toInt32) &&& (255 : Int32)) <<< ((2 : Int32) &&& 31))))])) (fun _ k => XS.bipush X0.here hx rfl (hb hby d17_49) k) ?_
        refine Done.st (B := s₁.setTop (mkF m 52 #[.val (.int q), .val (.int (q &&& (3 : Int32))), .val (.int ((q &&& (3 : Int32)) ||| ((((q.toUInt32 >>> ((2 : Int32) &&& 31).toUInt32).toInt32) &&& (255 : Int32)) <<< ((2 : Int32) &&& 31))))] [(.int ((q.toUInt32 >>> ((18 : Int32) &&& 31).toUInt32).toInt32)), (.int ((q &&& (3 : Int32)) ||| ((((q.toUInt32 >>> ((2 : Int32) &&& 31).toUInt32).toInt32) &&& (255 : Int32)) <<< ((2 : Int32) &&& 31))))])) (fun _ k => XS.iushr X0.here hx rfl (hb hby d17_51) rfl k) ?_
        refine Done.st (B := s₁.setTop (mkF m 55 #[.val (.int q), .val (.int (q &&& (3 : Int32))), .val (.int ((q &&& (3 : Int32)) ||| ((((q.toUInt32 >>> ((2 : Int32) &&& 31).toUInt32).toInt32) &&& (255 : Int32)) <<< ((2 : Int32) &&& 31))))] [(.int (255 : Int32)), (.int ((q.toUInt32 >>> ((18 : Int32) &&& 31).toUInt32).toInt32)), (.int ((q &&& (3 : Int32)) ||| ((((q.toUInt32 >>> ((2 : Int32) &&& 31).toUInt32).toInt32) &&& (255 : Int32)) <<< ((2 : Int32) &&& 31))))])) (fun _ k => XS.sipush X0.here hx rfl (hb hby d17_52) k) ?_
        refine Done.st (B := s₁.setTop (mkF m 56 #[.val (.int q), .val (.int (q &&& (3 : Int32))), .val (.int ((q &&& (3 : Int32)) ||| ((((q.toUInt32 >>> ((2 : Int32) &&& 31).toUInt32).toInt32) &&& (255 : Int32)) <<< ((2 : Int32) &&& 31))))] [(.int (((q.toUInt32 >>> ((18 : Int32) &&& 31).toUInt32).toInt32) &&& (255 : Int32))), (.int ((q &&& (3 : Int32)) ||| ((((q.toUInt32 >>> ((2 : Int32) &&& 31).toUInt32).toInt32) &&& (255 : Int32)) <<< ((2 : Int32) &&& 31))))])) (fun _ k => XS.iand X0.here hx rfl (hb hby d17_55) rfl k) ?_
        refine Done.st (B := s₁.setTop (mkF m 58 #[.val (.int q), .val (.int (q &&& (3 : Int32))), .val (.int ((q &&& (3 : Int32)) ||| ((((q.toUInt32 >>> ((2 : Int32) &&& 31).toUInt32).toInt32) &&& (255 : Int32)) <<< ((2 : Int32) &&& 31))))] [(.int (18 : Int32)), (.int (((q.toUInt32 >>> ((18 : Int32) &&& 31).toUInt32).toInt32) &&& (255 : Int32))), (.int ((q &&& (3 : Int32)) ||| ((((q.toUInt32 >>> ((2 : Int32) &&& 31).toUInt32).toInt32) &&& (255 : Int32)) <<< ((2 : Int32) &&& 31))))])) (fun _ k => XS.bipush X0.here hx rfl (hb hby d17_56) k) ?_
        refine Done.st (B := s₁.setTop (mkF m 59 #[.val (.int q), .val (.int (q &&& (3 : Int32))), .val (.int ((q &&& (3 : Int32)) ||| ((((q.toUInt32 >>> ((2 : Int32) &&& 31).toUInt32).toInt32) &&& (255 : Int32)) <<< ((2 : Int32) &&& 31))))] [(.int ((((q.toUInt32 >>> ((18 : Int32) &&& 31).toUInt32).toInt32) &&& (255 : Int32)) <<< ((18 : Int32) &&& 31))), (.int ((q &&& (3 : Int32)) ||| ((((q.toUInt32 >>> ((2 : Int32) &&& 31).toUInt32).toInt32) &&& (255 : Int32)) <<< ((2 : Int32) &&& 31))))])) (fun _ k => XS.ishl X0.here hx rfl (hb hby d17_58) rfl k) ?_
        refine Done.st (B := s₁.setTop (mkF m 60 #[.val (.int q), .val (.int (q &&& (3 : Int32))), .val (.int ((q &&& (3 : Int32)) ||| ((((q.toUInt32 >>> ((2 : Int32) &&& 31).toUInt32).toInt32) &&& (255 : Int32)) <<< ((2 : Int32) &&& 31))))] [(.int (((q &&& (3 : Int32)) ||| ((((q.toUInt32 >>> ((2 : Int32) &&& 31).toUInt32).toInt32) &&& (255 : Int32)) <<< ((2 : Int32) &&& 31))) ||| ((((q.toUInt32 >>> ((18 : Int32) &&& 31).toUInt32).toInt32) &&& (255 : Int32)) <<< ((18 : Int32) &&& 31))))])) (fun _ k => XS.ior X0.here hx rfl (hb hby d17_59) rfl k) ?_
        refine Done.st (B := s₁.setTop (mkF m 61 #[.val (.int q), .val (.int (q &&& (3 : Int32))), .val (.int (((q &&& (3 : Int32)) ||| ((((q.toUInt32 >>> ((2 : Int32) &&& 31).toUInt32).toInt32) &&& (255 : Int32)) <<< ((2 : Int32) &&& 31))) ||| ((((q.toUInt32 >>> ((18 : Int32) &&& 31).toUInt32).toInt32) &&& (255 : Int32)) <<< ((18 : Int32) &&& 31))))] [])) (fun _ k => XS.istoreN X0.here hx rfl (hb hby d17_60) rfl (l' := #[.val (.int q), .val (.int (q &&& (3 : Int32))), .val (.int (((q &&& (3 : Int32)) ||| ((((q.toUInt32 >>> ((2 : Int32) &&& 31).toUInt32).toInt32) &&& (255 : Int32)) <<< ((2 : Int32) &&& 31))) ||| ((((q.toUInt32 >>> ((18 : Int32) &&& 31).toUInt32).toInt32) &&& (255 : Int32)) <<< ((18 : Int32) &&& 31))))]) rfl k) ?_
        refine Done.st (B := s₁.setTop (mkF m 62 #[.val (.int q), .val (.int (q &&& (3 : Int32))), .val (.int (((q &&& (3 : Int32)) ||| ((((q.toUInt32 >>> ((2 : Int32) &&& 31).toUInt32).toInt32) &&& (255 : Int32)) <<< ((2 : Int32) &&& 31))) ||| ((((q.toUInt32 >>> ((18 : Int32) &&& 31).toUInt32).toInt32) &&& (255 : Int32)) <<< ((18 : Int32) &&& 31))))] [(.int (((q &&& (3 : Int32)) ||| ((((q.toUInt32 >>> ((2 : Int32) &&& 31).toUInt32).toInt32) &&& (255 : Int32)) <<< ((2 : Int32) &&& 31))) ||| ((((q.toUInt32 >>> ((18 : Int32) &&& 31).toUInt32).toInt32) &&& (255 : Int32)) <<< ((18 : Int32) &&& 31))))])) (fun _ k => XS.iloadN X0.here hx rfl (hb hby d17_61) rfl k) ?_
        obtain ⟨fs, hr, hrun, hended, hW, hsame⟩ := X0.leave (v := some (.int (((q &&& (3 : Int32)) ||| ((((q.toUInt32 >>> ((2 : Int32) &&& 31).toUInt32).toInt32) &&& (255 : Int32)) <<< ((2 : Int32) &&& 31))) ||| ((((q.toUInt32 >>> ((18 : Int32) &&& 31).toUInt32).toInt32) &&& (255 : Int32)) <<< ((18 : Int32) &&& 31))))) (hlocks := hlk) (fun h => by rw [Bd.returns] at h; cases h)
        refine Done.fin (retI X0 hx Bd.returns (hb hby d17_62) hr) hrun hended ⟨_, _, rfl, ?_, ⟨_, rfl⟩, hW, hsame.mono (by decide) (by decide)⟩
        show QrmKey Z q h0 n0 _ s₁.heap _
        rw [e0]
        exact ⟨by simp only [own_key, own_k, own_k1, own_k2, own_k3, own_cc, if_neg hc8, if_pos hc25, if_neg hc44, if_true, if_false], N0, rfl⟩
    · refine Done.st (B := s₁.setTop (mkF m 28 #[.val (.int q), .val (.int (q &&& (3 : Int32))), .val (.int ((q &&& (3 : Int32)) ||| ((((q.toUInt32 >>> ((2 : Int32) &&& 31).toUInt32).toInt32) &&& (255 : Int32)) <<< ((2 : Int32) &&& 31))))] [])) (fun _ k => XS.icmpNo X0.here hx rfl (hb hby d17_25) rfl (flt hc25).1 k) ?_
      refine Done.st (B := s₁.setTop (mkF m 29 #[.val (.int q), .val (.int (q &&& (3 : Int32))), .val (.int ((q &&& (3 : Int32)) ||| ((((q.toUInt32 >>> ((2 : Int32) &&& 31).toUInt32).toInt32) &&& (255 : Int32)) <<< ((2 : Int32) &&& 31))))] [(.int ((q &&& (3 : Int32)) ||| ((((q.toUInt32 >>> ((2 : Int32) &&& 31).toUInt32).toInt32) &&& (255 : Int32)) <<< ((2 : Int32) &&& 31))))])) (fun _ k => XS.iloadN X0.here hx rfl (hb hby d17_28) rfl k) ?_
      refine Done.st (B := s₁.setTop (mkF m 30 #[.val (.int q), .val (.int (q &&& (3 : Int32))), .val (.int ((q &&& (3 : Int32)) ||| ((((q.toUInt32 >>> ((2 : Int32) &&& 31).toUInt32).toInt32) &&& (255 : Int32)) <<< ((2 : Int32) &&& 31))))] [(.int q), (.int ((q &&& (3 : Int32)) ||| ((((q.toUInt32 >>> ((2 : Int32) &&& 31).toUInt32).toInt32) &&& (255 : Int32)) <<< ((2 : Int32) &&& 31))))])) (fun _ k => XS.iloadN X0.here hx rfl (hb hby d17_29) rfl k) ?_
      refine Done.st (B := s₁.setTop (mkF m 32 #[.val (.int q), .val (.int (q &&& (3 : Int32))), .val (.int ((q &&& (3 : Int32)) ||| ((((q.toUInt32 >>> ((2 : Int32) &&& 31).toUInt32).toInt32) &&& (255 : Int32)) <<< ((2 : Int32) &&& 31))))] [(.int (10 : Int32)), (.int q), (.int ((q &&& (3 : Int32)) ||| ((((q.toUInt32 >>> ((2 : Int32) &&& 31).toUInt32).toInt32) &&& (255 : Int32)) <<< ((2 : Int32) &&& 31))))])) (fun _ k => XS.bipush X0.here hx rfl (hb hby d17_30) k) ?_
      refine Done.st (B := s₁.setTop (mkF m 33 #[.val (.int q), .val (.int (q &&& (3 : Int32))), .val (.int ((q &&& (3 : Int32)) ||| ((((q.toUInt32 >>> ((2 : Int32) &&& 31).toUInt32).toInt32) &&& (255 : Int32)) <<< ((2 : Int32) &&& 31))))] [(.int ((q.toUInt32 >>> ((10 : Int32) &&& 31).toUInt32).toInt32)), (.int ((q &&& (3 : Int32)) ||| ((((q.toUInt32 >>> ((2 : Int32) &&& 31).toUInt32).toInt32) &&& (255 : Int32)) <<< ((2 : Int32) &&& 31))))])) (fun _ k => XS.iushr X0.here hx rfl (hb hby d17_32) rfl k) ?_
      refine Done.st (B := s₁.setTop (mkF m 36 #[.val (.int q), .val (.int (q &&& (3 : Int32))), .val (.int ((q &&& (3 : Int32)) ||| ((((q.toUInt32 >>> ((2 : Int32) &&& 31).toUInt32).toInt32) &&& (255 : Int32)) <<< ((2 : Int32) &&& 31))))] [(.int (255 : Int32)), (.int ((q.toUInt32 >>> ((10 : Int32) &&& 31).toUInt32).toInt32)), (.int ((q &&& (3 : Int32)) ||| ((((q.toUInt32 >>> ((2 : Int32) &&& 31).toUInt32).toInt32) &&& (255 : Int32)) <<< ((2 : Int32) &&& 31))))])) (fun _ k => XS.sipush X0.here hx rfl (hb hby d17_33) k) ?_
      refine Done.st (B := s₁.setTop (mkF m 37 #[.val (.int q), .val (.int (q &&& (3 : Int32))), .val (.int ((q &&& (3 : Int32)) ||| ((((q.toUInt32 >>> ((2 : Int32) &&& 31).toUInt32).toInt32) &&& (255 : Int32)) <<< ((2 : Int32) &&& 31))))] [(.int (((q.toUInt32 >>> ((10 : Int32) &&& 31).toUInt32).toInt32) &&& (255 : Int32))), (.int ((q &&& (3 : Int32)) ||| ((((q.toUInt32 >>> ((2 : Int32) &&& 31).toUInt32).toInt32) &&& (255 : Int32)) <<< ((2 : Int32) &&& 31))))])) (fun _ k => XS.iand X0.here hx rfl (hb hby d17_36) rfl k) ?_
      refine Done.st (B := s₁.setTop (mkF m 39 #[.val (.int q), .val (.int (q &&& (3 : Int32))), .val (.int ((q &&& (3 : Int32)) ||| ((((q.toUInt32 >>> ((2 : Int32) &&& 31).toUInt32).toInt32) &&& (255 : Int32)) <<< ((2 : Int32) &&& 31))))] [(.int (10 : Int32)), (.int (((q.toUInt32 >>> ((10 : Int32) &&& 31).toUInt32).toInt32) &&& (255 : Int32))), (.int ((q &&& (3 : Int32)) ||| ((((q.toUInt32 >>> ((2 : Int32) &&& 31).toUInt32).toInt32) &&& (255 : Int32)) <<< ((2 : Int32) &&& 31))))])) (fun _ k => XS.bipush X0.here hx rfl (hb hby d17_37) k) ?_
      refine Done.st (B := s₁.setTop (mkF m 40 #[.val (.int q), .val (.int (q &&& (3 : Int32))), .val (.int ((q &&& (3 : Int32)) ||| ((((q.toUInt32 >>> ((2 : Int32) &&& 31).toUInt32).toInt32) &&& (255 : Int32)) <<< ((2 : Int32) &&& 31))))] [(.int ((((q.toUInt32 >>> ((10 : Int32) &&& 31).toUInt32).toInt32) &&& (255 : Int32)) <<< ((10 : Int32) &&& 31))), (.int ((q &&& (3 : Int32)) ||| ((((q.toUInt32 >>> ((2 : Int32) &&& 31).toUInt32).toInt32) &&& (255 : Int32)) <<< ((2 : Int32) &&& 31))))])) (fun _ k => XS.ishl X0.here hx rfl (hb hby d17_39) rfl k) ?_
      refine Done.st (B := s₁.setTop (mkF m 41 #[.val (.int q), .val (.int (q &&& (3 : Int32))), .val (.int ((q &&& (3 : Int32)) ||| ((((q.toUInt32 >>> ((2 : Int32) &&& 31).toUInt32).toInt32) &&& (255 : Int32)) <<< ((2 : Int32) &&& 31))))] [(.int (((q &&& (3 : Int32)) ||| ((((q.toUInt32 >>> ((2 : Int32) &&& 31).toUInt32).toInt32) &&& (255 : Int32)) <<< ((2 : Int32) &&& 31))) ||| ((((q.toUInt32 >>> ((10 : Int32) &&& 31).toUInt32).toInt32) &&& (255 : Int32)) <<< ((10 : Int32) &&& 31))))])) (fun _ k => XS.ior X0.here hx rfl (hb hby d17_40) rfl k) ?_
      refine Done.st (B := s₁.setTop (mkF m 42 #[.val (.int q), .val (.int (q &&& (3 : Int32))), .val (.int (((q &&& (3 : Int32)) ||| ((((q.toUInt32 >>> ((2 : Int32) &&& 31).toUInt32).toInt32) &&& (255 : Int32)) <<< ((2 : Int32) &&& 31))) ||| ((((q.toUInt32 >>> ((10 : Int32) &&& 31).toUInt32).toInt32) &&& (255 : Int32)) <<< ((10 : Int32) &&& 31))))] [])) (fun _ k => XS.istoreN X0.here hx rfl (hb hby d17_41) rfl (l' := #[.val (.int q), .val (.int (q &&& (3 : Int32))), .val (.int (((q &&& (3 : Int32)) ||| ((((q.toUInt32 >>> ((2 : Int32) &&& 31).toUInt32).toInt32) &&& (255 : Int32)) <<< ((2 : Int32) &&& 31))) ||| ((((q.toUInt32 >>> ((10 : Int32) &&& 31).toUInt32).toInt32) &&& (255 : Int32)) <<< ((10 : Int32) &&& 31))))]) rfl k) ?_
      refine Done.st (B := s₁.setTop (mkF m 43 #[.val (.int q), .val (.int (q &&& (3 : Int32))), .val (.int (((q &&& (3 : Int32)) ||| ((((q.toUInt32 >>> ((2 : Int32) &&& 31).toUInt32).toInt32) &&& (255 : Int32)) <<< ((2 : Int32) &&& 31))) ||| ((((q.toUInt32 >>> ((10 : Int32) &&& 31).toUInt32).toInt32) &&& (255 : Int32)) <<< ((10 : Int32) &&& 31))))] [(.int (q &&& (3 : Int32)))])) (fun _ k => XS.iloadN X0.here hx rfl (hb hby d17_42) rfl k) ?_
      refine Done.st (B := s₁.setTop (mkF m 44 #[.val (.int q), .val (.int (q &&& (3 : Int32))), .val (.int (((q &&& (3 : Int32)) ||| ((((q.toUInt32 >>> ((2 : Int32) &&& 31).toUInt32).toInt32) &&& (255 : Int32)) <<< ((2 : Int32) &&& 31))) ||| ((((q.toUInt32 >>> ((10 : Int32) &&& 31).toUInt32).toInt32) &&& (255 : Int32)) <<< ((10 : Int32) &&& 31))))] [(.int (3 : Int32)), (.int (q &&& (3 : Int32)))])) (fun _ k => XS.iconst X0.here hx rfl (hb hby d17_43) k) ?_
      by_cases hc44 : (q &&& (3 : Int32)) < (3 : Int32)
      · refine Done.st (B := s₁.setTop (mkF m 61 #[.val (.int q), .val (.int (q &&& (3 : Int32))), .val (.int (((q &&& (3 : Int32)) ||| ((((q.toUInt32 >>> ((2 : Int32) &&& 31).toUInt32).toInt32) &&& (255 : Int32)) <<< ((2 : Int32) &&& 31))) ||| ((((q.toUInt32 >>> ((10 : Int32) &&& 31).toUInt32).toInt32) &&& (255 : Int32)) <<< ((10 : Int32) &&& 31))))] [])) (fun _ k => XS.icmpYes X0.here hx rfl (pc0 := 44) (pc' := 61) rfl (hb hby d17_44) rfl (tlt hc44).1 (by decide) (by decide) k) ?_
        refine Done.st (B := s₁.setTop (mkF m 62 #[.val (.int q), .val (.int (q &&& (3 : Int32))), .val (.int (((q &&& (3 : Int32)) ||| ((((q.toUInt32 >>> ((2 : Int32) &&& 31).toUInt32).toInt32) &&& (255 : Int32)) <<< ((2 : Int32) &&& 31))) ||| ((((q.toUInt32 >>> ((10 : Int32) &&& 31).toUInt32).toInt32) &&& (255 : Int32)) <<< ((10 : Int32) &&& 31))))] [(.int (((q &&& (3 : Int32)) ||| ((((q.toUInt32 >>> ((2 : Int32) &&& 31).toUInt32).toInt32) &&& (255 : Int32)) <<< ((2 : Int32) &&& 31))) ||| ((((q.toUInt32 >>> ((10 : Int32) &&& 31).toUInt32).toInt32) &&& (255 : Int32)) <<< ((10 : Int32) &&& 31))))])) (fun _ k => XS.iloadN X0.here hx rfl (hb hby d17_61) rfl k) ?_
        obtain ⟨fs, hr, hrun, hended, hW, hsame⟩ := X0.leave (v := some (.int (((q &&& (3 : Int32)) ||| ((((q.toUInt32 >>> ((2 : Int32) &&& 31).toUInt32).toInt32) &&& (255 : Int32)) <<< ((2 : Int32) &&& 31))) ||| ((((q.toUInt32 >>> ((10 : Int32) &&& 31).toUInt32).toInt32) &&& (255 : Int32)) <<< ((10 : Int32) &&& 31))))) (hlocks := hlk) (fun h => by rw [Bd.returns] at h; cases h)
        refine Done.fin (retI X0 hx Bd.returns (hb hby d17_62) hr) hrun hended ⟨_, _, rfl, ?_, ⟨_, rfl⟩, hW, hsame.mono (by decide) (by decide)⟩
        show QrmKey Z q h0 n0 _ s₁.heap _
        rw [e0]
        exact ⟨by simp only [own_key, own_k, own_k1, own_k2, own_k3, own_cc, if_neg hc8, if_neg hc25, if_pos hc44, if_true, if_false], N0, rfl⟩
      · refine Done.st (B := s₁.setTop (mkF m 47 #[.val (.int q), .val (.int (q &&& (3 : Int32))), .val (.int (((q &&& (3 : Int32)) ||| ((((q.toUInt32 >>> ((2 : Int32) &&& 31).toUInt32).toInt32) &&& (255 : Int32)) <<< ((2 : Int32) &&& 31))) ||| ((((q.toUInt32 >>> ((10 : Int32) &&& 31).toUInt32).toInt32) &&& (255 : Int32)) <<< ((10 : Int32) &&& 31))))] [])) (fun _ k => XS.icmpNo X0.here hx rfl (hb hby d17_44) rfl (flt hc44).1 k) ?_
        refine Done.st (B := s₁.setTop (mkF m 48 #[.val (.int q), .val (.int (q &&& (3 : Int32))), .val (.int (((q &&& (3 : Int32)) ||| ((((q.toUInt32 >>> ((2 : Int32) &&& 31).toUInt32).toInt32) &&& (255 : Int32)) <<< ((2 : Int32) &&& 31))) ||| ((((q.toUInt32 >>> ((10 : Int32) &&& 31).toUInt32).toInt32) &&& (255 : Int32)) <<< ((10 : Int32) &&& 31))))] [(.int (((q &&& (3 : Int32)) ||| ((((q.toUInt32 >>> ((2 : Int32) &&& 31).toUInt32).toInt32) &&& (255 : Int32)) <<< ((2 : Int32) &&& 31))) ||| ((((q.toUInt32 >>> ((10 : Int32) &&& 31).toUInt32).toInt32) &&& (255 : Int32)) <<< ((10 : Int32) &&& 31))))])) (fun _ k => XS.iloadN X0.here hx rfl (hb hby d17_47) rfl k) ?_
        refine Done.st (B := s₁.setTop (mkF m 49 #[.val (.int q), .val (.int (q &&& (3 : Int32))), .val (.int (((q &&& (3 : Int32)) ||| ((((q.toUInt32 >>> ((2 : Int32) &&& 31).toUInt32).toInt32) &&& (255 : Int32)) <<< ((2 : Int32) &&& 31))) ||| ((((q.toUInt32 >>> ((10 : Int32) &&& 31).toUInt32).toInt32) &&& (255 : Int32)) <<< ((10 : Int32) &&& 31))))] [(.int q), (.int (((q &&& (3 : Int32)) ||| ((((q.toUInt32 >>> ((2 : Int32) &&& 31).toUInt32).toInt32) &&& (255 : Int32)) <<< ((2 : Int32) &&& 31))) ||| ((((q.toUInt32 >>> ((10 : Int32) &&& 31).toUInt32).toInt32) &&& (255 : Int32)) <<< ((10 : Int32) &&& 31))))])) (fun _ k => XS.iloadN X0.here hx rfl (hb hby d17_48) rfl k) ?_
        refine Done.st (B := s₁.setTop (mkF m 51 #[.val (.int q), .val (.int (q &&& (3 : Int32))), .val (.int (((q &&& (3 : Int32)) ||| ((((q.toUInt32 >>> ((2 : Int32) &&& 31).toUInt32).toInt32) &&& (255 : Int32)) <<< ((2 : Int32) &&& 31))) ||| ((((q.toUInt32 >>> ((10 : Int32) &&& 31).toUInt32).toInt32) &&& (255 : Int32)) <<< ((10 : Int32) &&& 31))))] [(.int (18 : Int32)), (.int q), (.int (((q &&& (3 : Int32)) ||| ((((q.toUInt32 >>> ((2 : Int32) &&& 31).toUInt32).toInt32) &&& (255 : Int32)) <<< ((2 : Int32) &&& 31))) ||| ((((q.toUInt32 >>> ((10 : Int32) &&& 31).toUInt32).toInt32) &&& (255 : Int32)) <<< ((10 : Int32) &&& 31))))])) (fun _ k => XS.bipush X0.here hx rfl (hb hby d17_49) k) ?_
        refine Done.st (B := s₁.setTop (mkF m 52 #[.val (.int q), .val (.int (q &&& (3 : Int32))), .val (.int (((q &&& (3 : Int32)) ||| ((((q.toUInt32 >>> ((2 : Int32) &&& 31).toUInt32).toInt32) &&& (255 : Int32)) <<< ((2 : Int32) &&& 31))) ||| ((((q.toUInt32 >>> ((10 : Int32) &&& 31).toUInt32).toInt32) &&& (255 : Int32)) <<< ((10 : Int32) &&& 31))))] [(.int ((q.toUInt32 >>> ((18 : Int32) &&& 31).toUInt32).toInt32)), (.int (((q &&& (3 : Int32)) ||| ((((q.toUInt32 >>> ((2 : Int32) &&& 31).toUInt32).toInt32) &&& (255 : Int32)) <<< ((2 : Int32) &&& 31))) ||| ((((q.toUInt32 >>> ((10 : Int32) &&& 31).toUInt32).toInt32) &&& (255 : Int32)) <<< ((10 : Int32) &&& 31))))])) (fun _ k => XS.iushr X0.here hx rfl (hb hby d17_51) rfl k) ?_
        refine Done.st (B := s₁.setTop (mkF m 55 #[.val (.int q), .val (.int (q &&& (3 : Int32))), .val (.int (((q &&& (3 : Int32)) ||| ((((q.toUInt32 >>> ((2 : Int32) &&& 31).toUInt32).toInt32) &&& (255 : Int32)) <<< ((2 : Int32) &&& 31))) ||| ((((q.toUInt32 >>> ((10 : Int32) &&& 31).toUInt32).toInt32) &&& (255 : Int32)) <<< ((10 : Int32) &&& 31))))] [(.int (255 : Int32)), (.int ((q.toUInt32 >>> ((18 : Int32) &&& 31).toUInt32).toInt32)), (.int (((q &&& (3 : Int32)) ||| ((((q.toUInt32 >>> ((2 : Int32) &&& 31).toUInt32).toInt32) &&& (255 : Int32)) <<< ((2 : Int32) &&& 31))) ||| ((((q.toUInt32 >>> ((10 : Int32) &&& 31).toUInt32).toInt32) &&& (255 : Int32)) <<< ((10 : Int32) &&& 31))))])) (fun _ k => XS.sipush X0.here hx rfl (hb hby d17_52) k) ?_
        refine Done.st (B := s₁.setTop (mkF m 56 #[.val (.int q), .val (.int (q &&& (3 : Int32))), .val (.int (((q &&& (3 : Int32)) ||| ((((q.toUInt32 >>> ((2 : Int32) &&& 31).toUInt32).toInt32) &&& (255 : Int32)) <<< ((2 : Int32) &&& 31))) ||| ((((q.toUInt32 >>> ((10 : Int32) &&& 31).toUInt32).toInt32) &&& (255 : Int32)) <<< ((10 : Int32) &&& 31))))] [(.int (((q.toUInt32 >>> ((18 : Int32) &&& 31).toUInt32).toInt32) &&& (255 : Int32))), (.int (((q &&& (3 : Int32)) ||| ((((q.toUInt32 >>> ((2 : Int32) &&& 31).toUInt32).toInt32) &&& (255 : Int32)) <<< ((2 : Int32) &&& 31))) ||| ((((q.toUInt32 >>> ((10 : Int32) &&& 31).toUInt32).toInt32) &&& (255 : Int32)) <<< ((10 : Int32) &&& 31))))])) (fun _ k => XS.iand X0.here hx rfl (hb hby d17_55) rfl k) ?_
        refine Done.st (B := s₁.setTop (mkF m 58 #[.val (.int q), .val (.int (q &&& (3 : Int32))), .val (.int (((q &&& (3 : Int32)) ||| ((((q.toUInt32 >>> ((2 : Int32) &&& 31).toUInt32).toInt32) &&& (255 : Int32)) <<< ((2 : Int32) &&& 31))) ||| ((((q.toUInt32 >>> ((10 : Int32) &&& 31).toUInt32).toInt32) &&& (255 : Int32)) <<< ((10 : Int32) &&& 31))))] [(.int (18 : Int32)), (.int (((q.toUInt32 >>> ((18 : Int32) &&& 31).toUInt32).toInt32) &&& (255 : Int32))), (.int (((q &&& (3 : Int32)) ||| ((((q.toUInt32 >>> ((2 : Int32) &&& 31).toUInt32).toInt32) &&& (255 : Int32)) <<< ((2 : Int32) &&& 31))) ||| ((((q.toUInt32 >>> ((10 : Int32) &&& 31).toUInt32).toInt32) &&& (255 : Int32)) <<< ((10 : Int32) &&& 31))))])) (fun _ k => XS.bipush X0.here hx rfl (hb hby d17_56) k) ?_
        refine Done.st (B := s₁.setTop (mkF m 59 #[.val (.int q), .val (.int (q &&& (3 : Int32))), .val (.int (((q &&& (3 : Int32)) ||| ((((q.toUInt32 >>> ((2 : Int32) &&& 31).toUInt32).toInt32) &&& (255 : Int32)) <<< ((2 : Int32) &&& 31))) ||| ((((q.toUInt32 >>> ((10 : Int32) &&& 31).toUInt32).toInt32) &&& (255 : Int32)) <<< ((10 : Int32) &&& 31))))] [(.int ((((q.toUInt32 >>> ((18 : Int32) &&& 31).toUInt32).toInt32) &&& (255 : Int32)) <<< ((18 : Int32) &&& 31))), (.int (((q &&& (3 : Int32)) ||| ((((q.toUInt32 >>> ((2 : Int32) &&& 31).toUInt32).toInt32) &&& (255 : Int32)) <<< ((2 : Int32) &&& 31))) ||| ((((q.toUInt32 >>> ((10 : Int32) &&& 31).toUInt32).toInt32) &&& (255 : Int32)) <<< ((10 : Int32) &&& 31))))])) (fun _ k => XS.ishl X0.here hx rfl (hb hby d17_58) rfl k) ?_
        refine Done.st (B := s₁.setTop (mkF m 60 #[.val (.int q), .val (.int (q &&& (3 : Int32))), .val (.int (((q &&& (3 : Int32)) ||| ((((q.toUInt32 >>> ((2 : Int32) &&& 31).toUInt32).toInt32) &&& (255 : Int32)) <<< ((2 : Int32) &&& 31))) ||| ((((q.toUInt32 >>> ((10 : Int32) &&& 31).toUInt32).toInt32) &&& (255 : Int32)) <<< ((10 : Int32) &&& 31))))] [(.int ((((q &&& (3 : Int32)) ||| ((((q.toUInt32 >>> ((2 : Int32) &&& 31).toUInt32).toInt32) &&& (255 : Int32)) <<< ((2 : Int32) &&& 31))) ||| ((((q.toUInt32 >>> ((10 : Int32) &&& 31).toUInt32).toInt32) &&& (255 : Int32)) <<< ((10 : Int32) &&& 31))) ||| ((((q.toUInt32 >>> ((18 : Int32) &&& 31).toUInt32).toInt32) &&& (255 : Int32)) <<< ((18 : Int32) &&& 31))))])) (fun _ k => XS.ior X0.here hx rfl (hb hby d17_59) rfl k) ?_
        refine Done.st (B := s₁.setTop (mkF m 61 #[.val (.int q), .val (.int (q &&& (3 : Int32))), .val (.int ((((q &&& (3 : Int32)) ||| ((((q.toUInt32 >>> ((2 : Int32) &&& 31).toUInt32).toInt32) &&& (255 : Int32)) <<< ((2 : Int32) &&& 31))) ||| ((((q.toUInt32 >>> ((10 : Int32) &&& 31).toUInt32).toInt32) &&& (255 : Int32)) <<< ((10 : Int32) &&& 31))) ||| ((((q.toUInt32 >>> ((18 : Int32) &&& 31).toUInt32).toInt32) &&& (255 : Int32)) <<< ((18 : Int32) &&& 31))))] [])) (fun _ k => XS.istoreN X0.here hx rfl (hb hby d17_60) rfl (l' := #[.val (.int q), .val (.int (q &&& (3 : Int32))), .val (.int ((((q &&& (3 : Int32)) ||| ((((q.toUInt32 >>> ((2 : Int32) &&& 31).toUInt32).toInt32) &&& (255 : Int32)) <<< ((2 : Int32) &&& 31))) ||| ((((q.toUInt32 >>> ((10 : Int32) &&& 31).toUInt32).toInt32) &&& (255 : Int32)) <<< ((10 : Int32) &&& 31))) ||| ((((q.toUInt32 >>> ((18 : Int32) &&& 31).toUInt32).toInt32) &&& (255 : Int32)) <<< ((18 : Int32) &&& 31))))]) rfl k) ?_
        refine Done.st (B := s₁.setTop (mkF m 62 #[.val (.int q), .val (.int (q &&& (3 : Int32))), .val (.int ((((q &&& (3 : Int32)) ||| ((((q.toUInt32 >>> ((2 : Int32) &&& 31).toUInt32).toInt32) &&& (255 : Int32)) <<< ((2 : Int32) &&& 31))) ||| ((((q.toUInt32 >>> ((10 : Int32) &&& 31).toUInt32).toInt32) &&& (255 : Int32)) <<< ((10 : Int32) &&& 31))) ||| ((((q.toUInt32 >>> ((18 : Int32) &&& 31).toUInt32).toInt32) &&& (255 : Int32)) <<< ((18 : Int32) &&& 31))))] [(.int ((((q &&& (3 : Int32)) ||| ((((q.toUInt32 >>> ((2 : Int32) &&& 31).toUInt32).toInt32) &&& (255 : Int32)) <<< ((2 : Int32) &&& 31))) ||| ((((q.toUInt32 >>> ((10 : Int32) &&& 31).toUInt32).toInt32) &&& (255 : Int32)) <<< ((10 : Int32) &&& 31))) ||| ((((q.toUInt32 >>> ((18 : Int32) &&& 31).toUInt32).toInt32) &&& (255 : Int32)) <<< ((18 : Int32) &&& 31))))])) (fun _ k => XS.iloadN X0.here hx rfl (hb hby d17_61) rfl k) ?_
        obtain ⟨fs, hr, hrun, hended, hW, hsame⟩ := X0.leave (v := some (.int ((((q &&& (3 : Int32)) ||| ((((q.toUInt32 >>> ((2 : Int32) &&& 31).toUInt32).toInt32) &&& (255 : Int32)) <<< ((2 : Int32) &&& 31))) ||| ((((q.toUInt32 >>> ((10 : Int32) &&& 31).toUInt32).toInt32) &&& (255 : Int32)) <<< ((10 : Int32) &&& 31))) ||| ((((q.toUInt32 >>> ((18 : Int32) &&& 31).toUInt32).toInt32) &&& (255 : Int32)) <<< ((18 : Int32) &&& 31))))) (hlocks := hlk) (fun h => by rw [Bd.returns] at h; cases h)
        refine Done.fin (retI X0 hx Bd.returns (hb hby d17_62) hr) hrun hended ⟨_, _, rfl, ?_, ⟨_, rfl⟩, hW, hsame.mono (by decide) (by decide)⟩
        show QrmKey Z q h0 n0 _ s₁.heap _
        rw [e0]
        exact ⟨by simp only [own_key, own_k, own_k1, own_k2, own_k3, own_cc, if_neg hc8, if_neg hc25, if_neg hc44, if_true, if_false], N0, rfl⟩
theorem ef_rmRq (m : MethodId) (a : Addr) : entryFrame m #[(.ref a)] 1 = mkF m 0 #[.val (.ref a)] [] := by first | (simp [entryFrame, mkF, argsToLocals, Value.category]; done) | rfl
def QrmRq (Z : State) (a : Addr) (h0 : Heap) (n0 : Nat) (v : Option Value) (h : Heap) (L : List Loc) : Prop := v = some (.ref a) ∧ Fr n0 L ∧ h = h0
def PrmRq (s : State) (Z : State) (a : Addr) (h0 : Heap) (n0 : Nat) : State → Outcome → Prop := fun U' o => ∃ v L, o = .returned v ∧ QrmRq Z a h0 n0 v U'.heap L ∧ FrameEnd s o U' L ({ frames := 0, cells := 0, slots := 0, locals := 0 } : Room).cells ({ frames := 0, cells := 0, slots := 0, locals := 0 } : Room).slots
set_option maxRecDepth 65536 in
set_option maxHeartbeats 40000000 in
theorem rmRq (l : Launch) (Z : State) (a0 : Array Value) (hw : ∀ d ∈ tables_1, d.before a0 Z = true) (ws : List Jvm.Cond) (a : Addr) (h0 : Heap) (n0 : Nat) (Z0 : n0 ≤ h0.size) :
    MetFree l (⟨"java/util/Objects", "requireNonNull", "(Ljava/lang/Object;)Ljava/lang/Object;"⟩ : MethodName) (head1 (Jvm.Cond.code (⟨"java/util/Objects", "requireNonNull", "(Ljava/lang/Object;)Ljava/lang/Object;"⟩ : MethodName) jdk_31_method_10_code 1 (some (.object "java/lang/Object")) :: ws) ({ frames := 0, cells := 0, slots := 0, locals := 0 } : Room)) (fun aa U => aa = #[(.ref a)] ∧ Z.Warmed39 U.vm ∧ U.heap = h0) (fun _ _ _ _ _ => True) (fun _ U o U' => ∃ v L, o = .returned v ∧ QrmRq Z a h0 n0 v U'.heap L ∧ FrameEnd U o U' L ({ frames := 0, cells := 0, slots := 0, locals := 0 } : Room).cells ({ frames := 0, cells := 0, slots := 0, locals := 0 } : Room).slots) := by
  refine MetFree.of_bodySF (plainFor_of_name pn_3) hisR ?_
  intro p e s m args below meth c s₁ Bd hml0 hP hK
  obtain ⟨rfl, hZ, hh⟩ := hP
  have hx := Bd.exec
  have hlk : meth.locks = false := by first | exact BodyLoose.notSynchronized Bd | exact Body.notSynchronized Bd
  have hby := Bd.bytes
  have hml : c.maxLocals = 1 := hml0
  have hown : s.vm.findClass "java/util/Objects" = some m.cls := findClass_of_methodNamed Bd.named
  have hnm := (name_of_methodNamed Bd.named Bd.method).1
  have X0 : Stand p l e ({ frames := 0, cells := 0, slots := 0, locals := 0 } : Room) s m #[(.ref a)] below meth c s₁ [] 0 0 := Stand.of_body Bd
  have e0 : s₁.heap = h0 := by rw [← hh, Bd.state]; rfl
  have N0 := Fr.nil n0
  show Done p e below (PrmRq s Z a h0 n0) (s₁.setTop (entryFrame m #[(.ref a)] 1))
  refine Done.st (B := s₁.setTop (mkF m 0 #[.val (.ref a)] [])) (fun _ k => castTop (ef_rmRq m a) k) ?_
  refine Done.st (B := s₁.setTop (mkF m 1 #[.val (.ref a)] [(.ref a)])) (fun _ k => XS.aloadN X0.here hx rfl (hb hby d15_0) rfl rfl k) ?_
  refine Done.st (B := s₁.setTop (mkF m 12 #[.val (.ref a)] [])) (fun _ k => XS.ifnonnullYes X0.here hx rfl (pc0 := 1) (pc' := 12) rfl (hb hby d15_1) rfl (by decide) (by decide) k) ?_
  refine Done.st (B := s₁.setTop (mkF m 13 #[.val (.ref a)] [(.ref a)])) (fun _ k => XS.aloadN X0.here hx rfl (hb hby d15_12) rfl rfl k) ?_
  obtain ⟨fs, hr, hrun, hended, hW, hsame⟩ := X0.leave (v := some (.ref a)) (hlocks := hlk) (fun h => by rw [Bd.returns] at h; cases h)
  refine Done.fin (retR X0 hx Bd.returns rfl rfl (hb hby d15_13) hr) hrun hended ⟨_, _, rfl, ?_, ⟨_, rfl⟩, hW, hsame.mono (by decide) (by decide)⟩
  show QrmRq Z a h0 n0 _ s₁.heap _
  rw [e0]
  exact ⟨rfl, N0, rfl⟩
theorem ef_rmI (m : MethodId) (a : Addr) (t1 : Addr) (t2 : Addr) (t3 : Addr) (t4 : Addr) : entryFrame m #[(.ref a), (.ref t1), (.ref t2), (.ref t3), (.ref t4)] 5 = mkF m 0 #[.val (.ref a), .val (.ref t1), .val (.ref t2), .val (.ref t3), .val (.ref t4)] [] := by first | (simp [entryFrame, mkF, argsToLocals, Value.category]; done) | rfl
def QrmI (Z : State) (a : Addr) (t1 : Addr) (t2 : Addr) (t3 : Addr) (t4 : Addr) (h0 : Heap) (n0 : Nat) (v : Option Value) (h : Heap) (L : List Loc) : Prop := v = none ∧ Fr n0 L ∧ Keep h0 h [a] ∧ Exa Z h a "com/example/nameward/nameward/model/ClaimsRecord" ∧ Fld Z h a "com/example/nameward/nameward/model/ClaimsRecord" "aLabel" "Ljava/lang/String;" (.ref t1) ∧ Fld Z h a "com/example/nameward/nameward/model/ClaimsRecord" "officialName" "Ljava/lang/String;" (.ref t2) ∧ Fld Z h a "com/example/nameward/nameward/model/ClaimsRecord" "englishName" "Ljava/lang/String;" (.ref t3) ∧ Fld Z h a "com/example/nameward/nameward/model/ClaimsRecord" "url" "Ljava/lang/String;" (.ref t4)
def PrmI (s : State) (Z : State) (a : Addr) (t1 : Addr) (t2 : Addr) (t3 : Addr) (t4 : Addr) (h0 : Heap) (n0 : Nat) : State → Outcome → Prop := fun U' o => ∃ v L, o = .returned v ∧ QrmI Z a t1 t2 t3 t4 h0 n0 v U'.heap L ∧ FrameEnd s o U' L ({ frames := 1, cells := 0, slots := 0, locals := 13 } : Room).cells ({ frames := 1, cells := 0, slots := 0, locals := 13 } : Room).slots
set_option maxRecDepth 65536 in
set_option maxHeartbeats 40000000 in
theorem rmI (l : Launch) (Z : State) (a0 : Array Value) (hw : ∀ d ∈ tables_1, d.before a0 Z = true) (ws : List Jvm.Cond) (a : Addr) (t1 : Addr) (t2 : Addr) (t3 : Addr) (t4 : Addr) (h0 : Heap) (n0 : Nat) (Z0 : n0 ≤ h0.size) (F_0 : Fld Z h0 a "com/example/nameward/nameward/model/ClaimsRecord" "aLabel" "Ljava/lang/String;" .null) (F_1 : Fld Z h0 a "com/example/nameward/nameward/model/ClaimsRecord" "officialName" "Ljava/lang/String;" .null) (F_2 : Fld Z h0 a "com/example/nameward/nameward/model/ClaimsRecord" "englishName" "Ljava/lang/String;" .null) (F_3 : Fld Z h0 a "com/example/nameward/nameward/model/ClaimsRecord" "url" "Ljava/lang/String;" .null) (Ea : Exa Z h0 a "com/example/nameward/nameward/model/ClaimsRecord") (ga : n0 ≤ a) (Et1 : Exa Z h0 t1 "java/lang/String") (Et2 : Exa Z h0 t2 "java/lang/String") (Et3 : Exa Z h0 t3 "java/lang/String") (Et4 : Exa Z h0 t4 "java/lang/String") :
    MetFree l (⟨"com/example/nameward/nameward/model/ClaimsRecord", "<init>", "(Ljava/lang/String;Ljava/lang/String;Ljava/lang/String;Ljava/lang/String;)V"⟩ : MethodName) (head1 (Jvm.Cond.code (⟨"com/example/nameward/nameward/model/ClaimsRecord", "<init>", "(Ljava/lang/String;Ljava/lang/String;Ljava/lang/String;Ljava/lang/String;)V"⟩ : MethodName) prog_17_method_1_code 5 none :: ws) ({ frames := 1, cells := 0, slots := 0, locals := 13 } : Room)) (fun aa U => aa = #[(.ref a), (.ref t1), (.ref t2), (.ref t3), (.ref t4)] ∧ Z.Warmed39 U.vm ∧ U.heap = h0) (fun _ _ _ _ _ => True) (fun _ U o U' => ∃ v L, o = .returned v ∧ QrmI Z a t1 t2 t3 t4 h0 n0 v U'.heap L ∧ FrameEnd U o U' L ({ frames := 1, cells := 0, slots := 0, locals := 13 } : Room).cells ({ frames := 1, cells := 0, slots := 0, locals := 13 } : Room).slots) := by
  refine MetFree.of_bodySF (plainFor_of_name pn_4) hisR ?_
  intro p e s m args below meth c s₁ Bd hml0 hP hK
  obtain ⟨rfl, hZ, hh⟩ := hP
  have hx := Bd.exec
  have hlk : meth.locks = false := by first | exact BodyLoose.notSynchronized Bd | exact Body.notSynchronized Bd
  have hby := Bd.bytes
  have hml : c.maxLocals = 5 := hml0
  have hown : s.vm.findClass "com/example/nameward/nameward/model/ClaimsRecord" = some m.cls := findClass_of_methodNamed Bd.named
  have hnm := (name_of_methodNamed Bd.named Bd.method).1
  have X0 : Stand p l e ({ frames := 1, cells := 0, slots := 0, locals := 13 } : Room) s m #[(.ref a), (.ref t1), (.ref t2), (.ref t3), (.ref t4)] below meth c s₁ [] 0 0 := Stand.of_body Bd
  have e0 : s₁.heap = h0 := by rw [← hh, Bd.state]; rfl
  have N0 := Fr.nil n0
  show Done p e below (PrmI s Z a t1 t2 t3 t4 h0 n0) (s₁.setTop (entryFrame m #[(.ref a), (.ref t1), (.ref t2), (.ref t3), (.ref t4)] 5))
  refine Done.st (B := s₁.setTop (mkF m 0 #[.val (.ref a), .val (.ref t1), .val (.ref t2), .val (.ref t3), .val (.ref t4)] [])) (fun _ k => castTop (ef_rmI m a t1 t2 t3 t4) k) ?_
  refine Done.st (B := s₁.setTop (mkF m 1 #[.val (.ref a), .val (.ref t1), .val (.ref t2), .val (.ref t3), .val (.ref t4)] [(.ref a)])) (fun _ k => XS.aloadN X0.here hx rfl (hb hby d14_0) rfl rfl k) ?_
  obtain ⟨T1, X1, e1, st1⟩ := initO X0 hx hZ hown (hw _ (List.mem_of_getElem? (i := 63) rfl)) (hw _ (List.mem_of_getElem? (i := 25) rfl)) (hw _ (List.mem_of_getElem? (i := 26) rfl)) e0 (g := (mkF m 1 #[.val (.ref a), .val (.ref t1), .val (.ref t2), .val (.ref t3), .val (.ref t4)] [(.ref a)])) rfl (by rw [hml]; rfl) rfl (hb hby d14_1) (by decide) (W := 0) (by show 2 * 0 + _ ≤ _; exact Nat.le_of_eq rfl) (by decide)
  refine Done.st (B := T1.setTop (mkF m 4 #[.val (.ref a), .val (.ref t1), .val (.ref t2), .val (.ref t3), .val (.ref t4)] [])) (fun _ k => st1 _ k) ?_
  refine Done.st (B := T1.setTop (mkF m 5 #[.val (.ref a), .val (.ref t1), .val (.ref t2), .val (.ref t3), .val (.ref t4)] [(.ref a)])) (fun _ k => XS.aloadN X1.here hx rfl (hb hby d14_4) rfl rfl k) ?_
  refine Done.st (B := T1.setTop (mkF m 6 #[.val (.ref a), .val (.ref t1), .val (.ref t2), .val (.ref t3), .val (.ref t4)] [(.ref t1), (.ref a)])) (fun _ k => XS.aloadN X1.here hx rfl (hb hby d14_5) rfl rfl k) ?_
  obtain ⟨_, _, ⟨T2, L2, k2, n2⟩, -, X2, ⟨Lc2, hQ2, l2, y2, z2⟩, st2⟩ := Jvm.LawKit.callS X1 hx (y := (⟨"java/util/Objects", "requireNonNull", "(Ljava/lang/Object;)Ljava/lang/Object;"⟩ : MethodName)) hown (mvT hZ (hw _ (List.mem_of_getElem? (i := 64) rfl))) (mvT hZ (hw _ (List.mem_of_getElem? (i := 65) rfl))) (mvT hZ (hw _ (List.mem_of_getElem? (i := 66) rfl))) (mvT hZ (hw _ (List.mem_of_getElem? (i := 67) rfl))) (by decide) (backOf (W := 1) (rmRq l Z a0 hw [] t1 h0 n0 Z0) hZ (hw _ (List.mem_of_getElem? (i := 67) rfl)) (hw _ (List.mem_of_getElem? (i := 66) rfl)) (by decide) (by decide)) (g := (mkF m 6 #[.val (.ref a), .val (.ref t1), .val (.ref t2), .val (.ref t3), .val (.ref t4)] [(.ref t1), (.ref a)])) rfl (by rw [hml]; rfl) (argsL := [(.ref t1)]) (rest := [(.ref a)]) (lenOf pd_6 rfl) rfl (by show 2 * 0 + _ ≤ _; exact Nat.le_of_eq rfl) (hb hby d14_6) (fun _ _ => ⟨rfl, e1, (by decide : 0 + 0 ≤ _), (by decide : 0 + 0 ≤ _)⟩)
  dsimp only [Pt.U, Pt.locs, Pt.cells, Pt.slots] at X2 l2 y2 z2 st2 hQ2
  subst l2 y2 z2
  obtain ⟨rfl, N2q, e2⟩ := hQ2
  have N2 := Fr.app N0 N2q
  refine Done.st (B := T2.setTop (mkF m 9 #[.val (.ref a), .val (.ref t1), .val (.ref t2), .val (.ref t3), .val (.ref t4)] [(.ref t1), (.ref a)])) (fun _ k => st2 _ k) ?_
  obtain ⟨T3, X3, e3, st3⟩ := castY X2 hx hZ hown (hw _ (List.mem_of_getElem? (i := 68) rfl)) e2 (Ins.self Et1) (g := (mkF m 9 #[.val (.ref a), .val (.ref t1), .val (.ref t2), .val (.ref t3), .val (.ref t4)] [(.ref t1), (.ref a)])) rfl rfl (hb hby d14_9)
  refine Done.st (B := T3.setTop (mkF m 12 #[.val (.ref a), .val (.ref t1), .val (.ref t2), .val (.ref t3), .val (.ref t4)] [(.ref t1), (.ref a)])) (fun _ k => st3 _ k) ?_
  obtain ⟨T4, h4, X4, e4, W4, st4⟩ := putF X3 hx hZ hown (host := "") (Or.inl (hw _ (List.mem_of_getElem? (i := 69) rfl))) Via.refl e3 F_0 Ea (Or.inr ⟨(hw _ (List.mem_of_getElem? (i := 70) rfl)), rfl, hnm⟩) (hw _ (List.mem_of_getElem? (i := 8) rfl)) (ty := (.object "java/lang/String")) (by decide) rfl rfl (g := (mkF m 12 #[.val (.ref a), .val (.ref t1), .val (.ref t2), .val (.ref t3), .val (.ref t4)] [(.ref t1), (.ref a)])) rfl rfl (hb hby d14_12)
  have F4 := Fld.same W4 F_0
  have N4 := Fr.snoc X4 N2 ga
  have Z4 : n0 ≤ h4.size := Nat.le_trans Z0 (Keep.of_wr W4).1
  have KK4 : Keep h0 h4 [a] := ((Keep.refl h0 [a])).wr W4 (Or.inl (List.mem_of_getElem? (i := 0) rfl))
  refine Done.st (B := T4.setTop (mkF m 15 #[.val (.ref a), .val (.ref t1), .val (.ref t2), .val (.ref t3), .val (.ref t4)] [])) (fun _ k => st4 _ k) ?_
  refine Done.st (B := T4.setTop (mkF m 16 #[.val (.ref a), .val (.ref t1), .val (.ref t2), .val (.ref t3), .val (.ref t4)] [(.ref a)])) (fun _ k => XS.aloadN X4.here hx rfl (hb hby d14_15) rfl rfl k) ?_
  refine Done.st (B := T4.setTop (mkF m 17 #[.val (.ref a), .val (.ref t1), .val (.ref t2), .val (.ref t3), .val (.ref t4)] [(.ref t2), (.ref a)])) (fun _ k => XS.aloadN X4.here hx rfl (hb hby d14_16) rfl rfl k) ?_
  obtain ⟨_, _, ⟨T5, L5, k5, n5⟩, -, X5, ⟨Lc5, hQ5, l5, y5, z5⟩, st5⟩ := Jvm.LawKit.callS X4 hx (y := (⟨"java/util/Objects", "requireNonNull", "(Ljava/lang/Object;)Ljava/lang/Object;"⟩ : MethodName)) hown (mvT hZ (hw _ (List.mem_of_getElem? (i := 64) rfl))) (mvT hZ (hw _ (List.mem_of_getElem? (i := 65) rfl))) (mvT hZ (hw _ (List.mem_of_getElem? (i := 66) rfl))) (mvT hZ (hw _ (List.mem_of_getElem? (i := 67) rfl))) (by decide) (backOf (W := 1) (rmRq l Z a0 hw [] t2 h4 n0 Z4) hZ (hw _ (List.mem_of_getElem? (i := 67) rfl)) (hw _ (List.mem_of_getElem? (i := 66) rfl)) (by decide) (by decide)) (g := (mkF m 17 #[.val (.ref a), .val (.ref t1), .val (.ref t2), .val (.ref t3), .val (.ref t4)] [(.ref t2), (.ref a)])) rfl (by rw [hml]; rfl) (argsL := [(.ref t2)]) (rest := [(.ref a)]) (lenOf pd_6 rfl) rfl (by show 2 * 0 + _ ≤ _; exact Nat.le_of_eq rfl) (hb hby d14_17) (fun _ _ => ⟨rfl, e4, (by decide : 0 + 0 ≤ _), (by decide : 0 + 0 ≤ _)⟩)
  dsimp only [Pt.U, Pt.locs, Pt.cells, Pt.slots] at X5 l5 y5 z5 st5 hQ5
  subst l5 y5 z5
  obtain ⟨rfl, N5q, e5⟩ := hQ5
  have N5 := Fr.app N4 N5q
  refine Done.st (B := T5.setTop (mkF m 20 #[.val (.ref a), .val (.ref t1), .val (.ref t2), .val (.ref t3), .val (.ref t4)] [(.ref t2), (.ref a)])) (fun _ k => st5 _ k) ?_
  have c7 := (Exa.wr W4 Et2)
  obtain ⟨T6, X6, e6, st6⟩ := castY X5 hx hZ hown (hw _ (List.mem_of_getElem? (i := 68) rfl)) e5 (Ins.self c7) (g := (mkF m 20 #[.val (.ref a), .val (.ref t1), .val (.ref t2), .val (.ref t3), .val (.ref t4)] [(.ref t2), (.ref a)])) rfl rfl (hb hby d14_20)
  refine Done.st (B := T6.setTop (mkF m 23 #[.val (.ref a), .val (.ref t1), .val (.ref t2), .val (.ref t3), .val (.ref t4)] [(.ref t2), (.ref a)])) (fun _ k => st6 _ k) ?_
  have c8 := (Exa.wr W4 Ea)
  have c9 := (Fld.other W4 F_1 (Or.inr (slot_ne (Or.inr (hw _ (List.mem_of_getElem? (i := 72) rfl))) (Or.inr (hw _ (List.mem_of_getElem? (i := 70) rfl))) (by decide) (t := (.object "java/lang/String")) (t' := (.object "java/lang/String")) (by decide) (by decide))))
  obtain ⟨T10, h10, X10, e10, W10, st10⟩ := putF X6 hx hZ hown (host := "") (Or.inl (hw _ (List.mem_of_getElem? (i := 71) rfl))) Via.refl e6 c9 c8 (Or.inr ⟨(hw _ (List.mem_of_getElem? (i := 72) rfl)), rfl, hnm⟩) (hw _ (List.mem_of_getElem? (i := 8) rfl)) (ty := (.object "java/lang/String")) (by decide) rfl rfl (g := (mkF m 23 #[.val (.ref a), .val (.ref t1), .val (.ref t2), .val (.ref t3), .val (.ref t4)] [(.ref t2), (.ref a)])) rfl rfl (hb hby d14_23)
  have F10 := Fld.same W10 c9
  have N10 := Fr.snoc X10 N5 ga
  have Z10 : n0 ≤ h10.size := Nat.le_trans Z4 (Keep.of_wr W10).1
  have KK10 : Keep h0 h10 [a] := (KK4).wr W10 (Or.inl (List.mem_of_getElem? (i := 0) rfl))
  refine Done.st (B := T10.setTop (mkF m 26 #[.val (.ref a), .val (.ref t1), .val (.ref t2), .val (.ref t3), .val (.ref t4)] [])) (fun _ k => st10 _ k) ?_
  refine Done.st (B := T10.setTop (mkF m 27 #[.val (.ref a), .val (.ref t1), .val (.ref t2), .val (.ref t3), .val (.ref t4)] [(.ref a)])) (fun _ k => XS.aloadN X10.here hx rfl (hb hby d14_26) rfl rfl k) ?_
  refine Done.st (B := T10.setTop (mkF m 28 #[.val (.ref a), .val (.ref t1), .val (.ref t2), .val (.ref t3), .val (.ref t4)] [(.ref t3), (.ref a)])) (fun _ k => XS.aloadN X10.here hx rfl (hb hby d14_27) rfl rfl k) ?_
  obtain ⟨_, _, ⟨T11, L11, k11, n11⟩, -, X11, ⟨Lc11, hQ11, l11, y11, z11⟩, st11⟩ := Jvm.LawKit.callS X10 hx (y := (⟨"java/util/Objects", "requireNonNull", "(Ljava/lang/Object;)Ljava/lang/Object;"⟩ : MethodName)) hown (mvT hZ (hw _ (List.mem_of_getElem? (i := 64) rfl))) (mvT hZ (hw _ (List.mem_of_getElem? (i := 65) rfl))) (mvT hZ (hw _ (List.mem_of_getElem? (i := 66) rfl))) (mvT hZ (hw _ (List.mem_of_getElem? (i := 67) rfl))) (by decide) (backOf (W := 1) (rmRq l Z a0 hw [] t3 h10 n0 Z10) hZ (hw _ (List.mem_of_getElem? (i := 67) rfl)) (hw _ (List.mem_of_getElem? (i := 66) rfl)) (by decide) (by decide)) (g := (mkF m 28 #[.val (.ref a), .val (.ref t1), .val (.ref t2), .val (.ref t3), .val (.ref t4)] [(.ref t3), (.ref a)])) rfl (by rw [hml]; rfl) (argsL := [(.ref t3)]) (rest := [(.ref a)]) (lenOf pd_6 rfl) rfl (by show 2 * 0 + _ ≤ _; exact Nat.le_of_eq rfl) (hb hby d14_28) (fun _ _ => ⟨rfl, e10, (by decide : 0 + 0 ≤ _), (by decide : 0 + 0 ≤ _)⟩)
  dsimp only [Pt.U, Pt.locs, Pt.cells, Pt.slots] at X11 l11 y11 z11 st11 hQ11
  subst l11 y11 z11
  obtain ⟨rfl, N11q, e11⟩ := hQ11
  have N11 := Fr.app N10 N11q
  refine Done.st (B := T11.setTop (mkF m 31 #[.val (.ref a), .val (.ref t1), .val (.ref t2), .val (.ref t3), .val (.ref t4)] [(.ref t3), (.ref a)])) (fun _ k => st11 _ k) ?_
  have c13 := (Exa.wr W10 (Exa.wr W4 Et3))
  obtain ⟨T12, X12, e12, st12⟩ := castY X11 hx hZ hown (hw _ (List.mem_of_getElem? (i := 68) rfl)) e11 (Ins.self c13) (g := (mkF m 31 #[.val (.ref a), .val (.ref t1), .val (.ref t2), .val (.ref t3), .val (.ref t4)] [(.ref t3), (.ref a)])) rfl rfl (hb hby d14_31)
  refine Done.st (B := T12.setTop (mkF m 34 #[.val (.ref a), .val (.ref t1), .val (.ref t2), .val (.ref t3), .val (.ref t4)] [(.ref t3), (.ref a)])) (fun _ k => st12 _ k) ?_
  have c14 := (Exa.wr W10 c8)
  have c15 := (Fld.other W10 (Fld.other W4 F_2 (Or.inr (slot_ne (Or.inr (hw _ (List.mem_of_getElem? (i := 74) rfl))) (Or.inr (hw _ (List.mem_of_getElem? (i := 70) rfl))) (by decide) (t := (.object "java/lang/String")) (t' := (.object "java/lang/String")) (by decide) (by decide)))) (Or.inr (slot_ne (Or.inr (hw _ (List.mem_of_getElem? (i := 74) rfl))) (Or.inr (hw _ (List.mem_of_getElem? (i := 72) rfl))) (by decide) (t := (.object "java/lang/String")) (t' := (.object "java/lang/String")) (by decide) (by decide))))
  obtain ⟨T16, h16, X16, e16, W16, st16⟩ := putF X12 hx hZ hown (host := "") (Or.inl (hw _ (List.mem_of_getElem? (i := 73) rfl))) Via.refl e12 c15 c14 (Or.inr ⟨(hw _ (List.mem_of_getElem? (i := 74) rfl)), rfl, hnm⟩) (hw _ (List.mem_of_getElem? (i := 8) rfl)) (ty := (.object "java/lang/String")) (by decide) rfl rfl (g := (mkF m 34 #[.val (.ref a), .val (.ref t1), .val (.ref t2), .val (.ref t3), .val (.ref t4)] [(.ref t3), (.ref a)])) rfl rfl (hb hby d14_34)
  have F16 := Fld.same W16 c15
  have N16 := Fr.snoc X16 N11 ga
  have Z16 : n0 ≤ h16.size := Nat.le_trans Z10 (Keep.of_wr W16).1
  have KK16 : Keep h0 h16 [a] := (KK10).wr W16 (Or.inl (List.mem_of_getElem? (i := 0) rfl))
  refine Done.st (B := T16.setTop (mkF m 37 #[.val (.ref a), .val (.ref t1), .val (.ref t2), .val (.ref t3), .val (.ref t4)] [])) (fun _ k => st16 _ k) ?_
  refine Done.st (B := T16.setTop (mkF m 38 #[.val (.ref a), .val (.ref t1), .val (.ref t2), .val (.ref t3), .val (.ref t4)] [(.ref a)])) (fun _ k => XS.aloadN X16.here hx rfl (hb hby d14_37) rfl rfl k) ?_
  refine Done.st (B := T16.setTop (mkF m 40 #[.val (.ref a), .val (.ref t1), .val (.ref t2), .val (.ref t3), .val (.ref t4)] [(.ref t4), (.ref a)])) (fun _ k => XS.aload X16.here hx rfl (hb hby d14_38) rfl rfl k) ?_
  obtain ⟨_, _, ⟨T17, L17, k17, n17⟩, -, X17, ⟨Lc17, hQ17, l17, y17, z17⟩, st17⟩ := Jvm.LawKit.callS X16 hx (y := (⟨"java/util/Objects", "requireNonNull", "(Ljava/lang/Object;)Ljava/lang/Object;"⟩ : MethodName)) hown (mvT hZ (hw _ (List.mem_of_getElem? (i := 64) rfl))) (mvT hZ (hw _ (List.mem_of_getElem? (i := 65) rfl))) (mvT hZ (hw _ (List.mem_of_getElem? (i := 66) rfl))) (mvT hZ (hw _ (List.mem_of_getElem? (i := 67) rfl))) (by decide) (backOf (W := 1) (rmRq l Z a0 hw [] t4 h16 n0 Z16) hZ (hw _ (List.mem_of_getElem? (i := 67) rfl)) (hw _ (List.mem_of_getElem? (i := 66) rfl)) (by decide) (by decide)) (g := (mkF m 40 #[.val (.ref a), .val (.ref t1), .val (.ref t2), .val (.ref t3), .val (.ref t4)] [(.ref t4), (.ref a)])) rfl (by rw [hml]; rfl) (argsL := [(.ref t4)]) (rest := [(.ref a)]) (lenOf pd_6 rfl) rfl (by show 2 * 0 + _ ≤ _; exact Nat.le_of_eq rfl) (hb hby d14_40) (fun _ _ => ⟨rfl, e16, (by decide : 0 + 0 ≤ _), (by decide : 0 + 0 ≤ _)⟩)
  dsimp only [Pt.U, Pt.locs, Pt.cells, Pt.slots] at X17 l17 y17 z17 st17 hQ17
  subst l17 y17 z17
  obtain ⟨rfl, N17q, e17⟩ := hQ17
  have N17 := Fr.app N16 N17q
  refine Done.st (B := T17.setTop (mkF m 43 #[.val (.ref a), .val (.ref t1), .val (.ref t2), .val (.ref t3), .val (.ref t4)] [(.ref t4), (.ref a)])) (fun _ k => st17 _ k) ?_
  have c19 := (Exa.wr W16 (Exa.wr W10 (Exa.wr W4 Et4)))
  obtain ⟨T18, X18, e18, st18⟩ := castY X17 hx hZ hown (hw _ (List.mem_of_getElem? (i := 68) rfl)) e17 (Ins.self c19) (g := (mkF m 43 #[.val (.ref a), .val (.ref t1), .val (.ref t2), .val (.ref t3), .val (.ref t4)] [(.ref t4), (.ref a)])) rfl rfl (hb hby d14_43)
  refine Done.st (B := T18.setTop (mkF m 46 #[.val (.ref a), .val (.ref t1), .val (.ref t2), .val (.ref t3), .val (.ref t4)] [(.ref t4), (.ref a)])) (fun _ k => st18 _ k) ?_
  have c20 := (Exa.wr W16 c14)
  have c21 := (Fld.other W16 (Fld.other W10 (Fld.other W4 F_3 (Or.inr (slot_ne (Or.inr (hw _ (List.mem_of_getElem? (i := 76) rfl))) (Or.inr (hw _ (List.mem_of_getElem? (i := 70) rfl))) (by decide) (t := (.object "java/lang/String")) (t' := (.object "java/lang/String")) (by decide) (by decide)))) (Or.inr (slot_ne (Or.inr (hw _ (List.mem_of_getElem? (i := 76) rfl))) (Or.inr (hw _ (List.mem_of_getElem? (i := 72) rfl))) (by decide) (t := (.object "java/lang/String")) (t' := (.object "java/lang/String")) (by decide) (by decide)))) (Or.inr (slot_ne (Or.inr (hw _ (List.mem_of_getElem? (i := 76) rfl))) (Or.inr (hw _ (List.mem_of_getElem? (i := 74) rfl))) (by decide) (t := (.object "java/lang/String")) (t' := (.object "java/lang/String")) (by decide) (by decide))))
  obtain ⟨T22, h22, X22, e22, W22, st22⟩ := putF X18 hx hZ hown (host := "") (Or.inl (hw _ (List.mem_of_getElem? (i := 75) rfl))) Via.refl e18 c21 c20 (Or.inr ⟨(hw _ (List.mem_of_getElem? (i := 76) rfl)), rfl, hnm⟩) (hw _ (List.mem_of_getElem? (i := 8) rfl)) (ty := (.object "java/lang/String")) (by decide) rfl rfl (g := (mkF m 46 #[.val (.ref a), .val (.ref t1), .val (.ref t2), .val (.ref t3), .val (.ref t4)] [(.ref t4), (.ref a)])) rfl rfl (hb hby d14_46)
  have F22 := Fld.same W22 c21
  have N22 := Fr.snoc X22 N17 ga
  have Z22 : n0 ≤ h22.size := Nat.le_trans Z16 (Keep.of_wr W22).1
  have KK22 : Keep h0 h22 [a] := (KK16).wr W22 (Or.inl (List.mem_of_getElem? (i := 0) rfl))
  refine Done.st (B := T22.setTop (mkF m 49 #[.val (.ref a), .val (.ref t1), .val (.ref t2), .val (.ref t3), .val (.ref t4)] [])) (fun _ k => st22 _ k) ?_
  obtain ⟨fs, hr, hrun, hended, hW, hsame⟩ := X22.leave (v := none) (hlocks := hlk) (fun _ => rfl)
  have c24 := (Exa.wr W22 c20)
  have c25 := (Fld.other W22 (Fld.other W16 (Fld.other W10 F4 (Or.inr (slot_ne (Or.inr (hw _ (List.mem_of_getElem? (i := 70) rfl))) (Or.inr (hw _ (List.mem_of_getElem? (i := 72) rfl))) (by decide) (t := (.object "java/lang/String")) (t' := (.object "java/lang/String")) (by decide) (by decide)))) (Or.inr (slot_ne (Or.inr (hw _ (List.mem_of_getElem? (i := 70) rfl))) (Or.inr (hw _ (List.mem_of_getElem? (i := 74) rfl))) (by decide) (t := (.object "java/lang/String")) (t' := (.object "java/lang/String")) (by decide) (by decide)))) (Or.inr (slot_ne (Or.inr (hw _ (List.mem_of_getElem? (i := 70) rfl))) (Or.inr (hw _ (List.mem_of_getElem? (i := 76) rfl))) (by decide) (t := (.object "java/lang/String")) (t' := (.object "java/lang/String")) (by decide) (by decide))))
  have c26 := (Fld.other W22 (Fld.other W16 F10 (Or.inr (slot_ne (Or.inr (hw _ (List.mem_of_getElem? (i := 72) rfl))) (Or.inr (hw _ (List.mem_of_getElem? (i := 74) rfl))) (by decide) (t := (.object "java/lang/String")) (t' := (.object "java/lang/String")) (by decide) (by decide)))) (Or.inr (slot_ne (Or.inr (hw _ (List.mem_of_getElem? (i := 72) rfl))) (Or.inr (hw _ (List.mem_of_getElem? (i := 76) rfl))) (by decide) (t := (.object "java/lang/String")) (t' := (.object "java/lang/String")) (by decide) (by decide))))
  have c27 := (Fld.other W22 F16 (Or.inr (slot_ne (Or.inr (hw _ (List.mem_of_getElem? (i := 74) rfl))) (Or.inr (hw _ (List.mem_of_getElem? (i := 76) rfl))) (by decide) (t := (.object "java/lang/String")) (t' := (.object "java/lang/String")) (by decide) (by decide))))
  refine Done.fin (X22.returnOut hx Bd.returns (hb hby d14_49) hr) hrun hended ⟨_, _, rfl, ?_, ⟨_, rfl⟩, hW, hsame.mono (by decide) (by decide)⟩
  show QrmI Z a t1 t2 t3 t4 h0 n0 _ T22.heap _
  rw [e22]
  exact ⟨rfl, N22, KK22, c24, c25, c26, c27, F22⟩
theorem ef_rmEN (m : MethodId) (a : Addr) : entryFrame m #[(.ref a), .null] 3 = mkF m 0 #[.val (.ref a), .val .null, .unset] [] := by first | (simp [entryFrame, mkF, argsToLocals, Value.category]; done) | rfl
def QrmEN (Z : State) (a : Addr) (h0 : Heap) (n0 : Nat) (v : Option Value) (h : Heap) (L : List Loc) : Prop := v = some (.int 0) ∧ Fr n0 L ∧ h = h0
def PrmEN (s : State) (Z : State) (a : Addr) (h0 : Heap) (n0 : Nat) : State → Outcome → Prop := fun U' o => ∃ v L, o = .returned v ∧ QrmEN Z a h0 n0 v U'.heap L ∧ FrameEnd s o U' L ({ frames := 0, cells := 0, slots := 0, locals := 0 } : Room).cells ({ frames := 0, cells := 0, slots := 0, locals := 0 } : Room).slots
set_option maxRecDepth 65536 in
set_option maxHeartbeats 40000000 in
theorem rmEN (l : Launch) (Z : State) (a0 : Array Value) (hw : ∀ d ∈ tables_1, d.before a0 Z = true) (ws : List Jvm.Cond) (a : Addr) (h0 : Heap) (n0 : Nat) (Z0 : n0 ≤ h0.size) :
    MetFree l (⟨"com/example/nameward/nameward/model/ClaimsRecord", "equals", "(Ljava/lang/Object;)Z"⟩ : MethodName) (head1 (Jvm.Cond.code (⟨"com/example/nameward/nameward/model/ClaimsRecord", "equals", "(Ljava/lang/Object;)Z"⟩ : MethodName) prog_17_method_6_code 3 (some .boolean) :: ws) ({ frames := 0, cells := 0, slots := 0, locals := 0 } : Room)) (fun aa U => aa = #[(.ref a), .null] ∧ Z.Warmed39 U.vm ∧ U.heap = h0) (fun _ _ _ _ _ => True) (fun _ U o U' => ∃ v L, o = .returned v ∧ QrmEN Z a h0 n0 v U'.heap L ∧ FrameEnd U o U' L ({ frames := 0, cells := 0, slots := 0, locals := 0 } : Room).cells ({ frames := 0, cells := 0, slots := 0, locals := 0 } : Room).slots) := by
  refine MetFree.of_bodySF (plainFor_of_name pn_4) hisR ?_
  intro p e s m args below meth c s₁ Bd hml0 hP hK
  obtain ⟨rfl, hZ, hh⟩ := hP
  have hx := Bd.exec
  have hlk : meth.locks = false := by first | exact BodyLoose.notSynchronized Bd | exact Body.notSynchronized Bd
  have hby := Bd.bytes
  have hml : c.maxLocals = 3 := hml0
  have hown : s.vm.findClass "com/example/nameward/nameward/model/ClaimsRecord" = some m.cls := findClass_of_methodNamed Bd.named
  have hnm := (name_of_methodNamed Bd.named Bd.method).1
  have X0 : Stand p l e ({ frames := 0, cells := 0, slots := 0, locals := 0 } : Room) s m #[(.ref a), .null] below meth c s₁ [] 0 0 := Stand.of_body Bd
  have e0 : s₁.heap = h0 := by rw [← hh, Bd.state]; rfl
  have N0 := Fr.nil n0
  show Done p e below (PrmEN s Z a h0 n0) (s₁.setTop (entryFrame m #[(.ref a), .null] 3))
  refine Done.st (B := s₁.setTop (mkF m 0 #[.val (.ref a), .val .null, .unset] [])) (fun _ k => castTop (ef_rmEN m a) k) ?_
  refine Done.st (B := s₁.setTop (mkF m 1 #[.val (.ref a), .val .null, .unset] [.null])) (fun _ k => XS.aloadN X0.here hx rfl (hb hby d16_0) rfl rfl k) ?_
  refine Done.st (B := s₁.setTop (mkF m 4 #[.val (.ref a), .val .null, .unset] [(.int (0 : Int32))])) (fun _ k => X0.instanceofNull hx (g := (mkF m 1 #[.val (.ref a), .val .null, .unset] [.null])) rfl rfl (hb hby d16_1) _ k) ?_
  refine Done.st (B := s₁.setTop (mkF m 15 #[.val (.ref a), .val .null, .unset] [])) (fun _ k => XS.ifYes X0.here hx rfl (pc0 := 4) (pc' := 15) rfl (hb hby d16_4) rfl ((if0 _ _).trans (teq (rfl : (0 : Int32) = (0 : Int32))).1) (by decide) (by decide) k) ?_
  refine Done.st (B := s₁.setTop (mkF m 16 #[.val (.ref a), .val .null, .unset] [(.int (0 : Int32))])) (fun _ k => XS.iconst X0.here hx rfl (hb hby d16_15) k) ?_
  obtain ⟨fs, hr, hrun, hended, hW, hsame⟩ := X0.leave (v := some (.int (0 : Int32))) (hlocks := hlk) (fun h => by rw [Bd.returns] at h; cases h)
  refine Done.fin (retN X0 hx (t := .boolean) Bd.returns (by simp) (hb hby d16_16) hr) hrun hended ⟨_, _, rfl, ?_, ⟨_, rfl⟩, hW, hsame.mono (by decide) (by decide)⟩
  show QrmEN Z a h0 n0 _ s₁.heap _
  rw [e0]
  exact ⟨rfl, N0, rfl⟩
theorem ef_rmES (m : MethodId) (a : Addr) (b : Addr) : entryFrame m #[(.ref a), (.ref b)] 3 = mkF m 0 #[.val (.ref a), .val (.ref b), .unset] [] := by first | (simp [entryFrame, mkF, argsToLocals, Value.category]; done) | rfl
def QrmES (Z : State) (a : Addr) (b : Addr) (h0 : Heap) (n0 : Nat) (v : Option Value) (h : Heap) (L : List Loc) : Prop := v = some (.int 0) ∧ Fr n0 L ∧ h = h0
def PrmES (s : State) (Z : State) (a : Addr) (b : Addr) (h0 : Heap) (n0 : Nat) : State → Outcome → Prop := fun U' o => ∃ v L, o = .returned v ∧ QrmES Z a b h0 n0 v U'.heap L ∧ FrameEnd s o U' L ({ frames := 0, cells := 0, slots := 0, locals := 0 } : Room).cells ({ frames := 0, cells := 0, slots := 0, locals := 0 } : Room).slots
set_option maxRecDepth 65536 in
set_option maxHeartbeats 40000000 in
theorem rmES (l : Launch) (Z : State) (a0 : Array Value) (hw : ∀ d ∈ tables_1, d.before a0 Z = true) (ws : List Jvm.Cond) (a : Addr) (b : Addr) (h0 : Heap) (n0 : Nat) (Z0 : n0 ≤ h0.size) (Eb : Exa Z h0 b "java/lang/String") :
    MetFree l (⟨"com/example/nameward/nameward/model/ClaimsRecord", "equals", "(Ljava/lang/Object;)Z"⟩ : MethodName) (head1 (Jvm.Cond.code (⟨"com/example/nameward/nameward/model/ClaimsRecord", "equals", "(Ljava/lang/Object;)Z"⟩ : MethodName) prog_17_method_6_code 3 (some .boolean) :: ws) ({ frames := 0, cells := 0, slots := 0, locals := 0 } : Room)) (fun aa U => aa = #[(.ref a), (.ref b)] ∧ Z.Warmed39 U.vm ∧ U.heap = h0) (fun _ _ _ _ _ => True) (fun _ U o U' => ∃ v L, o = .returned v ∧ QrmES Z a b h0 n0 v U'.heap L ∧ FrameEnd U o U' L ({ frames := 0, cells := 0, slots := 0, locals := 0 } : Room).cells ({ frames := 0, cells := 0, slots := 0, locals := 0 } : Room).slots) := by
  refine MetFree.of_bodySF (plainFor_of_name pn_4) hisR ?_
  intro p e s m args below meth c s₁ Bd hml0 hP hK
  obtain ⟨rfl, hZ, hh⟩ := hP
  have hx := Bd.exec
  have hlk : meth.locks = false := by first | exact BodyLoose.notSynchronized Bd | exact Body.notSynchronized Bd
  have hby := Bd.bytes
  have hml : c.maxLocals = 3 := hml0
  have hown : s.vm.findClass "com/example/nameward/nameward/model/ClaimsRecord" = some m.cls := findClass_of_methodNamed Bd.named
  have hnm := (name_of_methodNamed Bd.named Bd.method).1
  have X0 : Stand p l e ({ frames := 0, cells := 0, slots := 0, locals := 0 } : Room) s m #[(.ref a), (.ref b)] below meth c s₁ [] 0 0 := Stand.of_body Bd
  have e0 : s₁.heap = h0 := by rw [← hh, Bd.state]; rfl
  have N0 := Fr.nil n0
  show Done p e below (PrmES s Z a b h0 n0) (s₁.setTop (entryFrame m #[(.ref a), (.ref b)] 3))
  refine Done.st (B := s₁.setTop (mkF m 0 #[.val (.ref a), .val (.ref b), .unset] [])) (fun _ k => castTop (ef_rmES m a b) k) ?_
  refine Done.st (B := s₁.setTop (mkF m 1 #[.val (.ref a), .val (.ref b), .unset] [(.ref b)])) (fun _ k => XS.aloadN X0.here hx rfl (hb hby d16_0) rfl rfl k) ?_
  obtain ⟨T1, X1, e1, st1⟩ := instNo X0 hx hZ hown (hw _ (List.mem_of_getElem? (i := 82) rfl)) e0 Eb (own_noinst (hw _ (List.mem_of_getElem? (i := 83) rfl)) (hw _ (List.mem_of_getElem? (i := 84) rfl)) (hw _ (List.mem_of_getElem? (i := 8) rfl)) (by decide) (by decide)) (g := (mkF m 1 #[.val (.ref a), .val (.ref b), .unset] [(.ref b)])) rfl rfl (hb hby d16_1)
  refine Done.st (B := T1.setTop (mkF m 4 #[.val (.ref a), .val (.ref b), .unset] [(.int (0 : Int32))])) (fun _ k => st1 _ k) ?_
  refine Done.st (B := T1.setTop (mkF m 15 #[.val (.ref a), .val (.ref b), .unset] [])) (fun _ k => XS.ifYes X1.here hx rfl (pc0 := 4) (pc' := 15) rfl (hb hby d16_4) rfl ((if0 _ _).trans (teq (rfl : (0 : Int32) = (0 : Int32))).1) (by decide) (by decide) k) ?_
  refine Done.st (B := T1.setTop (mkF m 16 #[.val (.ref a), .val (.ref b), .unset] [(.int (0 : Int32))])) (fun _ k => XS.iconst X1.here hx rfl (hb hby d16_15) k) ?_
  obtain ⟨fs, hr, hrun, hended, hW, hsame⟩ := X1.leave (v := some (.int (0 : Int32))) (hlocks := hlk) (fun h => by rw [Bd.returns] at h; cases h)
  refine Done.fin (retN X1 hx (t := .boolean) Bd.returns (by simp) (hb hby d16_16) hr) hrun hended ⟨_, _, rfl, ?_, ⟨_, rfl⟩, hW, hsame.mono (by decide) (by decide)⟩
  show QrmES Z a b h0 n0 _ T1.heap _
  rw [e1]
  exact ⟨rfl, N0, rfl⟩
theorem ef_rmEE (m : MethodId) (a : Addr) (b : Addr) : entryFrame m #[(.ref a), (.ref b)] 3 = mkF m 0 #[.val (.ref a), .val (.ref b), .unset] [] := by first | (simp [entryFrame, mkF, argsToLocals, Value.category]; done) | rfl
def QrmEE (Z : State) (a : Addr) (b : Addr) (t1 : Addr) (t2 : Addr) (t3 : Addr) (t4 : Addr) (u1 : Addr) (u2 : Addr) (u3 : Addr) (u4 : Addr) (ca : List Int32) (cb : List Int32) (cc : List Int32) (cd : List Int32) (da : List Int32) (db : List Int32) (dc : List Int32) (dd : List Int32) (z : Int32) (h0 : Heap) (n0 : Nat) (v : Option Value) (h : Heap) (L : List Loc) : Prop := v = some (.int (own_and4 (own_seq ca da) (own_seq cb db) (own_seq cc dc) (own_seq cd dd))) ∧ Fr n0 L ∧ h = h0
def PrmEE (s : State) (Z : State) (a : Addr) (b : Addr) (t1 : Addr) (t2 : Addr) (t3 : Addr) (t4 : Addr) (u1 : Addr) (u2 : Addr) (u3 : Addr) (u4 : Addr) (ca : List Int32) (cb : List Int32) (cc : List Int32) (cd : List Int32) (da : List Int32) (db : List Int32) (dc : List Int32) (dd : List Int32) (z : Int32) (h0 : Heap) (n0 : Nat) : State → Outcome → Prop := fun U' o => ∃ v L, o = .returned v ∧ QrmEE Z a b t1 t2 t3 t4 u1 u2 u3 u4 ca cb cc cd da db dc dd z h0 n0 v U'.heap L ∧ FrameEnd s o U' L ({ frames := 2, cells := 0, slots := 0, locals := 28 } : Room).cells ({ frames := 2, cells := 0, slots := 0, locals := 28 } : Room).slots
set_option maxRecDepth 65536 in
set_option maxHeartbeats 40000000 in
theorem rmEE (l : Launch) (Z : State) (a0 : Array Value) (hw : ∀ d ∈ tables_1, d.before a0 Z = true) (ws : List Jvm.Cond) (a : Addr) (b : Addr) (t1 : Addr) (t2 : Addr) (t3 : Addr) (t4 : Addr) (u1 : Addr) (u2 : Addr) (u3 : Addr) (u4 : Addr) (ca : List Int32) (cb : List Int32) (cc : List Int32) (cd : List Int32) (da : List Int32) (db : List Int32) (dc : List Int32) (dd : List Int32) (z : Int32) (h0 : Heap) (n0 : Nat) (Z0 : n0 ≤ h0.size) (Fa0 : Fld Z h0 a "com/example/nameward/nameward/model/ClaimsRecord" "aLabel" "Ljava/lang/String;" (.ref t1)) (Fa1 : Fld Z h0 a "com/example/nameward/nameward/model/ClaimsRecord" "officialName" "Ljava/lang/String;" (.ref t2)) (Fa2 : Fld Z h0 a "com/example/nameward/nameward/model/ClaimsRecord" "englishName" "Ljava/lang/String;" (.ref t3)) (Fa3 : Fld Z h0 a "com/example/nameward/nameward/model/ClaimsRecord" "url" "Ljava/lang/String;" (.ref t4)) (Fb0 : Fld Z h0 b "com/example/nameward/nameward/model/ClaimsRecord" "aLabel" "Ljava/lang/String;" (.ref u1)) (Fb1 : Fld Z h0 b "com/example/nameward/nameward/model/ClaimsRecord" "officialName" "Ljava/lang/String;" (.ref u2)) (Fb2 : Fld Z h0 b "com/example/nameward/nameward/model/ClaimsRecord" "englishName" "Ljava/lang/String;" (.ref u3)) (Fb3 : Fld Z h0 b "com/example/nameward/nameward/model/ClaimsRecord" "url" "Ljava/lang/String;" (.ref u4)) (Eb : Exa Z h0 b "com/example/nameward/nameward/model/ClaimsRecord") (T_t1 : Str Z h0 t1 ca) (T_t2 : Str Z h0 t2 cb) (T_t3 : Str Z h0 t3 cc) (T_t4 : Str Z h0 t4 cd) (T_u1 : Str Z h0 u1 da) (T_u2 : Str Z h0 u2 db) (T_u3 : Str Z h0 u3 dc) (T_u4 : Str Z h0 u4 dd) (hbca : ∀ c ∈ ca, ¬ c < 0 ∧ ¬ (255 : Int32) < c) (hbcb : ∀ c ∈ cb, ¬ c < 0 ∧ ¬ (255 : Int32) < c) (hbcc : ∀ c ∈ cc, ¬ c < 0 ∧ ¬ (255 : Int32) < c) (hbcd : ∀ c ∈ cd, ¬ c < 0 ∧ ¬ (255 : Int32) < c) (hbda : ∀ c ∈ da, ¬ c < 0 ∧ ¬ (255 : Int32) < c) (hbdb : ∀ c ∈ db, ¬ c < 0 ∧ ¬ (255 : Int32) < c) (hbdc : ∀ c ∈ dc, ¬ c < 0 ∧ ¬ (255 : Int32) < c) (hbdd : ∀ c ∈ dd, ¬ c < 0 ∧ ¬ (255 : Int32) < c) (hl_ca : ca.length ≤ 3) (hl_cb : cb.length ≤ 3) (hl_cc : cc.length ≤ 3) (hl_cd : cd.length ≤ 3) (hl_da : da.length ≤ 3) (hl_db : db.length ≤ 3) (hl_dc : dc.length ≤ 3) (hl_dd : dd.length ≤ 3) (S_z : Sta Z h0 "java/lang/String" "COMPACT_STRINGS" "Z" (.int z)) (hz : ¬ z = 0) :
    MetFree l (⟨"com/example/nameward/nameward/model/ClaimsRecord", "equals", "(Ljava/lang/Object;)Z"⟩ : MethodName) (head1 (Jvm.Cond.code (⟨"com/example/nameward/nameward/model/ClaimsRecord", "equals", "(Ljava/lang/Object;)Z"⟩ : MethodName) prog_17_method_6_code 3 (some .boolean) :: ws) ({ frames := 2, cells := 0, slots := 0, locals := 28 } : Room)) (fun aa U => aa = #[(.ref a), (.ref b)] ∧ Z.Warmed39 U.vm ∧ U.heap = h0) (fun _ _ _ _ _ => True) (fun _ U o U' => ∃ v L, o = .returned v ∧ QrmEE Z a b t1 t2 t3 t4 u1 u2 u3 u4 ca cb cc cd da db dc dd z h0 n0 v U'.heap L ∧ FrameEnd U o U' L ({ frames := 2, cells := 0, slots := 0, locals := 28 } : Room).cells ({ frames := 2, cells := 0, slots := 0, locals := 28 } : Room).slots) := by
  refine MetFree.of_bodySF (plainFor_of_name pn_4) hisR ?_
  intro p e s m args below meth c s₁ Bd hml0 hP hK
  obtain ⟨rfl, hZ, hh⟩ := hP
  have hx := Bd.exec
  have hlk : meth.locks = false := by first | exact BodyLoose.notSynchronized Bd | exact Body.notSynchronized Bd
  have hby := Bd.bytes
  have hml : c.maxLocals = 3 := hml0
  have hown : s.vm.findClass "com/example/nameward/nameward/model/ClaimsRecord" = some m.cls := findClass_of_methodNamed Bd.named
  have hnm := (name_of_methodNamed Bd.named Bd.method).1
  have X0 : Stand p l e ({ frames := 2, cells := 0, slots := 0, locals := 28 } : Room) s m #[(.ref a), (.ref b)] below meth c s₁ [] 0 0 := Stand.of_body Bd
  have e0 : s₁.heap = h0 := by rw [← hh, Bd.state]; rfl
  have N0 := Fr.nil n0
  show Done p e below (PrmEE s Z a b t1 t2 t3 t4 u1 u2 u3 u4 ca cb cc cd da db dc dd z h0 n0) (s₁.setTop (entryFrame m #[(.ref a), (.ref b)] 3))
  refine Done.st (B := s₁.setTop (mkF m 0 #[.val (.ref a), .val (.ref b), .unset] [])) (fun _ k => castTop (ef_rmEE m a b) k) ?_
  have E_t1 := Str.exa T_t1
  have E_t2 := Str.exa T_t2
  have E_t3 := Str.exa T_t3
  have E_t4 := Str.exa T_t4
  refine Done.st (B := s₁.setTop (mkF m 1 #[.val (.ref a), .val (.ref b), .unset] [(.ref b)])) (fun _ k => XS.aloadN X0.here hx rfl (hb hby d16_0) rfl rfl k) ?_
  obtain ⟨T1, X1, e1, st1⟩ := instY X0 hx hZ hown (hw _ (List.mem_of_getElem? (i := 82) rfl)) e0 (Ins.self Eb) (g := (mkF m 1 #[.val (.ref a), .val (.ref b), .unset] [(.ref b)])) rfl rfl (hb hby d16_1)
  refine Done.st (B := T1.setTop (mkF m 4 #[.val (.ref a), .val (.ref b), .unset] [(.int (1 : Int32))])) (fun _ k => st1 _ k) ?_
  refine Done.st (B := T1.setTop (mkF m 7 #[.val (.ref a), .val (.ref b), .unset] [])) (fun _ k => XS.ifNo X1.here hx rfl (hb hby d16_4) rfl ((if0 _ _).trans (feq (by decide : ¬ ((1 : Int32) = (0 : Int32)))).1) k) ?_
  refine Done.st (B := T1.setTop (mkF m 8 #[.val (.ref a), .val (.ref b), .unset] [(.ref b)])) (fun _ k => XS.aloadN X1.here hx rfl (hb hby d16_7) rfl rfl k) ?_
  obtain ⟨T2, X2, e2, st2⟩ := castY X1 hx hZ hown (hw _ (List.mem_of_getElem? (i := 82) rfl)) e1 (Ins.self Eb) (g := (mkF m 8 #[.val (.ref a), .val (.ref b), .unset] [(.ref b)])) rfl rfl (hb hby d16_8)
  refine Done.st (B := T2.setTop (mkF m 11 #[.val (.ref a), .val (.ref b), .unset] [(.ref b)])) (fun _ k => st2 _ k) ?_
  refine Done.st (B := T2.setTop (mkF m 12 #[.val (.ref a), .val (.ref b), .val (.ref b)] [])) (fun _ k => XS.astoreN X2.here hx rfl (hb hby d16_11) rfl rfl (l' := #[.val (.ref a), .val (.ref b), .val (.ref b)]) rfl k) ?_
  refine Done.st (B := T2.setTop (mkF m 17 #[.val (.ref a), .val (.ref b), .val (.ref b)] [])) (fun _ k => XS.goto X2.here hx rfl (pc0 := 12) (pc' := 17) rfl (hb hby d16_12) (by decide) (by decide) k) ?_
  refine Done.st (B := T2.setTop (mkF m 18 #[.val (.ref a), .val (.ref b), .val (.ref b)] [(.ref a)])) (fun _ k => XS.aloadN X2.here hx rfl (hb hby d16_17) rfl rfl k) ?_
  obtain ⟨T3, X3, e3, st3⟩ := getF X2 hx hZ hown (host := "") (Or.inl (hw _ (List.mem_of_getElem? (i := 69) rfl))) Via.refl e2 Fa0 (g := (mkF m 18 #[.val (.ref a), .val (.ref b), .val (.ref b)] [(.ref a)])) rfl rfl (hb hby d16_18)
  refine Done.st (B := T3.setTop (mkF m 21 #[.val (.ref a), .val (.ref b), .val (.ref b)] [(.ref t1)])) (fun _ k => st3 _ k) ?_
  refine Done.st (B := T3.setTop (mkF m 22 #[.val (.ref a), .val (.ref b), .val (.ref b)] [(.ref b), (.ref t1)])) (fun _ k => XS.aloadN X3.here hx rfl (hb hby d16_21) rfl rfl k) ?_
  obtain ⟨T4, X4, e4, st4⟩ := getF X3 hx hZ hown (host := "") (Or.inl (hw _ (List.mem_of_getElem? (i := 69) rfl))) Via.refl e3 Fb0 (g := (mkF m 22 #[.val (.ref a), .val (.ref b), .val (.ref b)] [(.ref b), (.ref t1)])) rfl rfl (hb hby d16_22)
  refine Done.st (B := T4.setTop (mkF m 25 #[.val (.ref a), .val (.ref b), .val (.ref b)] [(.ref u1), (.ref t1)])) (fun _ k => st4 _ k) ?_
  obtain ⟨tx5, kx5, Ex5, Cx5, Vx5, Ax5⟩ := id T_t1
  obtain ⟨ty5, ky5, Ey5, Cy5, Vy5, Ay5⟩ := id T_u1
  obtain ⟨cq6, kq6, q6a, q6b, q6c⟩ := isOf hZ e4 Ex5
  obtain ⟨_, _, ⟨T6, L6, k6, n6⟩, -, X6, ⟨Lc6, hQ6, l6, y6, z6⟩, st6⟩ := X4.virtualBack hx (y := (⟨"java/lang/String", "equals", "(Ljava/lang/Object;)Z"⟩ : MethodName)) (z := (⟨"java/lang/String", "equals", "(Ljava/lang/Object;)Z"⟩ : MethodName)) hown (mvT hZ (hw _ (List.mem_of_getElem? (i := 89) rfl))) (mvT hZ (hw _ (List.mem_of_getElem? (i := 90) rfl))) (notFace_of_selects (args := #[]) (mvT hZ (hw _ (List.mem_of_getElem? (i := 92) rfl)))) (mvT hZ (hw _ (List.mem_of_getElem? (i := 92) rfl))) (mvT hZ (hw _ (List.mem_of_getElem? (i := 91) rfl))) (by decide) (StrChars.Road.eqW (W := 0) hZ (own_weq hw) (kI := 4) (hw _ (List.mem_of_getElem? (i := 14) rfl)) Ex5 Vx5 Cx5 Ax5 (StrChars.Road.codOf rfl (fun c hc => (hbca c hc).2)) (own_up hbca) (own_l4 hl_ca) Ey5 Vy5 Cy5 Ay5 (StrChars.Road.codOf rfl (fun c hc => (hbda c hc).2)) (own_up hbda) (own_l4 hl_da) S_z hz (by decide) (by decide)) q6a q6c (g := (mkF m 25 #[.val (.ref a), .val (.ref b), .val (.ref b)] [(.ref u1), (.ref t1)])) rfl (by rw [hml]; rfl) (Steps.refl _) (argsL := [(.ref u1)]) (rest := []) (lenOf pd_7 rfl) rfl (by show 2 * 0 + _ ≤ _; exact Nat.le_of_eq rfl) (hb hby d16_25) (fun _ _ => ⟨rfl, e4, (by decide : 0 + 0 ≤ _), (by decide : 0 + 0 ≤ _)⟩)
  dsimp only [Pt.U, Pt.locs, Pt.cells, Pt.slots] at X6 l6 y6 z6 st6 hQ6
  subst l6 y6 z6
  obtain ⟨hv6, rfl, e6⟩ := hQ6
  have N6 := Fr.app N0 (Fr.nil n0)
  obtain rfl := own_seqv hv6
  refine Done.st (B := T6.setTop (mkF m 28 #[.val (.ref a), .val (.ref b), .val (.ref b)] [(.int (own_seq ca da))])) (fun _ k => st6.trans k) ?_
  by_cases hc28 : (own_seq ca da) = (0 : Int32)
  · refine Done.st (B := T6.setTop (mkF m 77 #[.val (.ref a), .val (.ref b), .val (.ref b)] [])) (fun _ k => XS.ifYes X6.here hx rfl (pc0 := 28) (pc' := 77) rfl (hb hby d16_28) rfl ((if0 _ _).trans (teq hc28).1) (by decide) (by decide) k) ?_
    refine Done.st (B := T6.setTop (mkF m 78 #[.val (.ref a), .val (.ref b), .val (.ref b)] [(.int (0 : Int32))])) (fun _ k => XS.iconst X6.here hx rfl (hb hby d16_77) k) ?_
    obtain ⟨fs, hr, hrun, hended, hW, hsame⟩ := X6.leave (v := some (.int (0 : Int32))) (hlocks := hlk) (fun h => by rw [Bd.returns] at h; cases h)
    refine Done.fin (retN X6 hx (t := .boolean) Bd.returns (by simp) (hb hby d16_78) hr) hrun hended ⟨_, _, rfl, ?_, ⟨_, rfl⟩, hW, hsame.mono (by decide) (by decide)⟩
    show QrmEE Z a b t1 t2 t3 t4 u1 u2 u3 u4 ca cb cc cd da db dc dd z h0 n0 _ T6.heap _
    rw [e6]
    exact ⟨by simp [own_and4, hc28], N6, rfl⟩
  · refine Done.st (B := T6.setTop (mkF m 31 #[.val (.ref a), .val (.ref b), .val (.ref b)] [])) (fun _ k => XS.ifNo X6.here hx rfl (hb hby d16_28) rfl ((if0 _ _).trans (feq hc28).1) k) ?_
    refine Done.st (B := T6.setTop (mkF m 32 #[.val (.ref a), .val (.ref b), .val (.ref b)] [(.ref a)])) (fun _ k => XS.aloadN X6.here hx rfl (hb hby d16_31) rfl rfl k) ?_
    obtain ⟨T8, X8, e8, st8⟩ := getF X6 hx hZ hown (host := "") (Or.inl (hw _ (List.mem_of_getElem? (i := 71) rfl))) Via.refl e6 Fa1 (g := (mkF m 32 #[.val (.ref a), .val (.ref b), .val (.ref b)] [(.ref a)])) rfl rfl (hb hby d16_32)
    refine Done.st (B := T8.setTop (mkF m 35 #[.val (.ref a), .val (.ref b), .val (.ref b)] [(.ref t2)])) (fun _ k => st8 _ k) ?_
    refine Done.st (B := T8.setTop (mkF m 36 #[.val (.ref a), .val (.ref b), .val (.ref b)] [(.ref b), (.ref t2)])) (fun _ k => XS.aloadN X8.here hx rfl (hb hby d16_35) rfl rfl k) ?_
    obtain ⟨T9, X9, e9, st9⟩ := getF X8 hx hZ hown (host := "") (Or.inl (hw _ (List.mem_of_getElem? (i := 71) rfl))) Via.refl e8 Fb1 (g := (mkF m 36 #[.val (.ref a), .val (.ref b), .val (.ref b)] [(.ref b), (.ref t2)])) rfl rfl (hb hby d16_36)
    refine Done.st (B := T9.setTop (mkF m 39 #[.val (.ref a), .val (.ref b), .val (.ref b)] [(.ref u2), (.ref t2)])) (fun _ k => st9 _ k) ?_
    obtain ⟨tx10, kx10, Ex10, Cx10, Vx10, Ax10⟩ := id T_t2
    obtain ⟨ty10, ky10, Ey10, Cy10, Vy10, Ay10⟩ := id T_u2
    obtain ⟨cq11, kq11, q11a, q11b, q11c⟩ := isOf hZ e9 Ex10
    obtain ⟨_, _, ⟨T11, L11, k11, n11⟩, -, X11, ⟨Lc11, hQ11, l11, y11, z11⟩, st11⟩ := X9.virtualBack hx (y := (⟨"java/lang/String", "equals", "(Ljava/lang/Object;)Z"⟩ : MethodName)) (z := (⟨"java/lang/String", "equals", "(Ljava/lang/Object;)Z"⟩ : MethodName)) hown (mvT hZ (hw _ (List.mem_of_getElem? (i := 89) rfl))) (mvT hZ (hw _ (List.mem_of_getElem? (i := 90) rfl))) (notFace_of_selects (args := #[]) (mvT hZ (hw _ (List.mem_of_getElem? (i := 92) rfl)))) (mvT hZ (hw _ (List.mem_of_getElem? (i := 92) rfl))) (mvT hZ (hw _ (List.mem_of_getElem? (i := 91) rfl))) (by decide) (StrChars.Road.eqW (W := 0) hZ (own_weq hw) (kI := 4) (hw _ (List.mem_of_getElem? (i := 14) rfl)) Ex10 Vx10 Cx10 Ax10 (StrChars.Road.codOf rfl (fun c hc => (hbcb c hc).2)) (own_up hbcb) (own_l4 hl_cb) Ey10 Vy10 Cy10 Ay10 (StrChars.Road.codOf rfl (fun c hc => (hbdb c hc).2)) (own_up hbdb) (own_l4 hl_db) S_z hz (by decide) (by decide)) q11a q11c (g := (mkF m 39 #[.val (.ref a), .val (.ref b), .val (.ref b)] [(.ref u2), (.ref t2)])) rfl (by rw [hml]; rfl) (Steps.refl _) (argsL := [(.ref u2)]) (rest := []) (lenOf pd_7 rfl) rfl (by show 2 * 0 + _ ≤ _; exact Nat.le_of_eq rfl) (hb hby d16_39) (fun _ _ => ⟨rfl, e9, (by decide : 0 + 0 ≤ _), (by decide : 0 + 0 ≤ _)⟩)
    dsimp only [Pt.U, Pt.locs, Pt.cells, Pt.slots] at X11 l11 y11 z11 st11 hQ11
    subst l11 y11 z11
    obtain ⟨hv11, rfl, e11⟩ := hQ11
    have N11 := Fr.app N6 (Fr.nil n0)
    obtain rfl := own_seqv hv11
    refine Done.st (B := T11.setTop (mkF m 42 #[.val (.ref a), .val (.ref b), .val (.ref b)] [(.int (own_seq cb db))])) (fun _ k => st11.trans k) ?_
    by_cases hc42 : (own_seq cb db) = (0 : Int32)
    · refine Done.st (B := T11.setTop (mkF m 77 #[.val (.ref a), .val (.ref b), .val (.ref b)] [])) (fun _ k => XS.ifYes X11.here hx rfl (pc0 := 42) (pc' := 77) rfl (hb hby d16_42) rfl ((if0 _ _).trans (teq hc42).1) (by decide) (by decide) k) ?_
      refine Done.st (B := T11.setTop (mkF m 78 #[.val (.ref a), .val (.ref b), .val (.ref b)] [(.int (0 : Int32))])) (fun _ k => XS.iconst X11.here hx rfl (hb hby d16_77) k) ?_
      obtain ⟨fs, hr, hrun, hended, hW, hsame⟩ := X11.leave (v := some (.int (0 : Int32))) (hlocks := hlk) (fun h => by rw [Bd.returns] at h; cases h)
      refine Done.fin (retN X11 hx (t := .boolean) Bd.returns (by simp) (hb hby d16_78) hr) hrun hended ⟨_, _, rfl, ?_, ⟨_, rfl⟩, hW, hsame.mono (by decide) (by decide)⟩
      show QrmEE Z a b t1 t2 t3 t4 u1 u2 u3 u4 ca cb cc cd da db dc dd z h0 n0 _ T11.heap _
      rw [e11]
      exact ⟨by simp [own_and4, hc28, hc42], N11, rfl⟩
    · refine Done.st (B := T11.setTop (mkF m 45 #[.val (.ref a), .val (.ref b), .val (.ref b)] [])) (fun _ k => XS.ifNo X11.here hx rfl (hb hby d16_42) rfl ((if0 _ _).trans (feq hc42).1) k) ?_
      refine Done.st (B := T11.setTop (mkF m 46 #[.val (.ref a), .val (.ref b), .val (.ref b)] [(.ref a)])) (fun _ k => XS.aloadN X11.here hx rfl (hb hby d16_45) rfl rfl k) ?_
      obtain ⟨T13, X13, e13, st13⟩ := getF X11 hx hZ hown (host := "") (Or.inl (hw _ (List.mem_of_getElem? (i := 73) rfl))) Via.refl e11 Fa2 (g := (mkF m 46 #[.val (.ref a), .val (.ref b), .val (.ref b)] [(.ref a)])) rfl rfl (hb hby d16_46)
      refine Done.st (B := T13.setTop (mkF m 49 #[.val (.ref a), .val (.ref b), .val (.ref b)] [(.ref t3)])) (fun _ k => st13 _ k) ?_
      refine Done.st (B := T13.setTop (mkF m 50 #[.val (.ref a), .val (.ref b), .val (.ref b)] [(.ref b), (.ref t3)])) (fun _ k => XS.aloadN X13.here hx rfl (hb hby d16_49) rfl rfl k) ?_
      obtain ⟨T14, X14, e14, st14⟩ := getF X13 hx hZ hown (host := "") (Or.inl (hw _ (List.mem_of_getElem? (i := 73) rfl))) Via.refl e13 Fb2 (g := (mkF m 50 #[.val (.ref a), .val (.ref b), .val (.ref b)] [(.ref b), (.ref t3)])) rfl rfl (hb hby d16_50)
      refine Done.st (B := T14.setTop (mkF m 53 #[.val (.ref a), .val (.ref b), .val (.ref b)] [(.ref u3), (.ref t3)])) (fun _ k => st14 _ k) ?_
      obtain ⟨tx15, kx15, Ex15, Cx15, Vx15, Ax15⟩ := id T_t3
      obtain ⟨ty15, ky15, Ey15, Cy15, Vy15, Ay15⟩ := id T_u3
      obtain ⟨cq16, kq16, q16a, q16b, q16c⟩ := isOf hZ e14 Ex15
      obtain ⟨_, _, ⟨T16, L16, k16, n16⟩, -, X16, ⟨Lc16, hQ16, l16, y16, z16⟩, st16⟩ := X14.virtualBack hx (y := (⟨"java/lang/String", "equals", "(Ljava/lang/Object;)Z"⟩ : MethodName)) (z := (⟨"java/lang/String", "equals", "(Ljava/lang/Object;)Z"⟩ : MethodName)) hown (mvT hZ (hw _ (List.mem_of_getElem? (i := 89) rfl))) (mvT hZ (hw _ (List.mem_of_getElem? (i := 90) rfl))) (notFace_of_selects (args := #[]) (mvT hZ (hw _ (List.mem_of_getElem? (i := 92) rfl)))) (mvT hZ (hw _ (List.mem_of_getElem? (i := 92) rfl))) (mvT hZ (hw _ (List.mem_of_getElem? (i := 91) rfl))) (by decide) (StrChars.Road.eqW (W := 0) hZ (own_weq hw) (kI := 4) (hw _ (List.mem_of_getElem? (i := 14) rfl)) Ex15 Vx15 Cx15 Ax15 (StrChars.Road.codOf rfl (fun c hc => (hbcc c hc).2)) (own_up hbcc) (own_l4 hl_cc) Ey15 Vy15 Cy15 Ay15 (StrChars.Road.codOf rfl (fun c hc => (hbdc c hc).2)) (own_up hbdc) (own_l4 hl_dc) S_z hz (by decide) (by decide)) q16a q16c (g := (mkF m 53 #[.val (.ref a), .val (.ref b), .val (.ref b)] [(.ref u3), (.ref t3)])) rfl (by rw [hml]; rfl) (Steps.refl _) (argsL := [(.ref u3)]) (rest := []) (lenOf pd_7 rfl) rfl (by show 2 * 0 + _ ≤ _; exact Nat.le_of_eq rfl) (hb hby d16_53) (fun _ _ => ⟨rfl, e14, (by decide : 0 + 0 ≤ _), (by decide : 0 + 0 ≤ _)⟩)
      dsimp only [Pt.U, Pt.locs, Pt.cells, Pt.slots] at X16 l16 y16 z16 st16 hQ16
      subst l16 y16 z16
      obtain ⟨hv16, rfl, e16⟩ := hQ16
      have N16 := Fr.app N11 (Fr.nil n0)
      obtain rfl := own_seqv hv16
      refine Done.st (B := T16.setTop (mkF m 56 #[.val (.ref a), .val (.ref b), .val (.ref b)] [(.int (own_seq cc dc))])) (fun _ k => st16.trans k) ?_
      by_cases hc56 : (own_seq cc dc) = (0 : Int32)
      · refine Done.st (B := T16.setTop (mkF m 77 #[.val (.ref a), .val (.ref b), .val (.ref b)] [])) (fun _ k => XS.ifYes X16.here hx rfl (pc0 := 56) (pc' := 77) rfl (hb hby d16_56) rfl ((if0 _ _).trans (teq hc56).1) (by decide) (by decide) k) ?_
        refine Done.st (B := T16.setTop (mkF m 78 #[.val (.ref a), .val (.ref b), .val (.ref b)] [(.int (0 : Int32))])) (fun _ k => XS.iconst X16.here hx rfl (hb hby d16_77) k) ?_
        obtain ⟨fs, hr, hrun, hended, hW, hsame⟩ := X16.leave (v := some (.int (0 : Int32))) (hlocks := hlk) (fun h => by rw [Bd.returns] at h; cases h)
        refine Done.fin (retN X16 hx (t := .boolean) Bd.returns (by simp) (hb hby d16_78) hr) hrun hended ⟨_, _, rfl, ?_, ⟨_, rfl⟩, hW, hsame.mono (by decide) (by decide)⟩
        show QrmEE Z a b t1 t2 t3 t4 u1 u2 u3 u4 ca cb cc cd da db dc dd z h0 n0 _ T16.heap _
        rw [e16]
        exact ⟨by simp [own_and4, hc28, hc42, hc56], N16, rfl⟩
      · refine Done.st (B := T16.setTop (mkF m 59 #[.val (.ref a), .val (.ref b), .val (.ref b)] [])) (fun _ k => XS.ifNo X16.here hx rfl (hb hby d16_56) rfl ((if0 _ _).trans (feq hc56).1) k) ?_
        refine Done.st (B := T16.setTop (mkF m 60 #[.val (.ref a), .val (.ref b), .val (.ref b)] [(.ref a)])) (fun _ k => XS.aloadN X16.here hx rfl (hb hby d16_59) rfl rfl k) ?_
        obtain ⟨T18, X18, e18, st18⟩ := getF X16 hx hZ hown (host := "") (Or.inl (hw _ (List.mem_of_getElem? (i := 75) rfl))) Via.refl e16 Fa3 (g := (mkF m 60 #[.val (.ref a), .val (.ref b), .val (.ref b)] [(.ref a)])) rfl rfl (hb hby d16_60)
        refine Done.st (B := T18.setTop (mkF m 63 #[.val (.ref a), .val (.ref b), .val (.ref b)] [(.ref t4)])) (fun _ k => st18 _ k) ?_
        refine Done.st (B := T18.setTop (mkF m 64 #[.val (.ref a), .val (.ref b), .val (.ref b)] [(.ref b), (.ref t4)])) (fun _ k => XS.aloadN X18.here hx rfl (hb hby d16_63) rfl rfl k) ?_
        obtain ⟨T19, X19, e19, st19⟩ := getF X18 hx hZ hown (host := "") (Or.inl (hw _ (List.mem_of_getElem? (i := 75) rfl))) Via.refl e18 Fb3 (g := (mkF m 64 #[.val (.ref a), .val (.ref b), .val (.ref b)] [(.ref b), (.ref t4)])) rfl rfl (hb hby d16_64)
        refine Done.st (B := T19.setTop (mkF m 67 #[.val (.ref a), .val (.ref b), .val (.ref b)] [(.ref u4), (.ref t4)])) (fun _ k => st19 _ k) ?_
        obtain ⟨tx20, kx20, Ex20, Cx20, Vx20, Ax20⟩ := id T_t4
        obtain ⟨ty20, ky20, Ey20, Cy20, Vy20, Ay20⟩ := id T_u4
        obtain ⟨cq21, kq21, q21a, q21b, q21c⟩ := isOf hZ e19 Ex20
        obtain ⟨_, _, ⟨T21, L21, k21, n21⟩, -, X21, ⟨Lc21, hQ21, l21, y21, z21⟩, st21⟩ := X19.virtualBack hx (y := (⟨"java/lang/String", "equals", "(Ljava/lang/Object;)Z"⟩ : MethodName)) (z := (⟨"java/lang/String", "equals", "(Ljava/lang/Object;)Z"⟩ : MethodName)) hown (mvT hZ (hw _ (List.mem_of_getElem? (i := 89) rfl))) (mvT hZ (hw _ (List.mem_of_getElem? (i := 90) rfl))) (notFace_of_selects (args := #[]) (mvT hZ (hw _ (List.mem_of_getElem? (i := 92) rfl)))) (mvT hZ (hw _ (List.mem_of_getElem? (i := 92) rfl))) (mvT hZ (hw _ (List.mem_of_getElem? (i := 91) rfl))) (by decide) (StrChars.Road.eqW (W := 0) hZ (own_weq hw) (kI := 4) (hw _ (List.mem_of_getElem? (i := 14) rfl)) Ex20 Vx20 Cx20 Ax20 (StrChars.Road.codOf rfl (fun c hc => (hbcd c hc).2)) (own_up hbcd) (own_l4 hl_cd) Ey20 Vy20 Cy20 Ay20 (StrChars.Road.codOf rfl (fun c hc => (hbdd c hc).2)) (own_up hbdd) (own_l4 hl_dd) S_z hz (by decide) (by decide)) q21a q21c (g := (mkF m 67 #[.val (.ref a), .val (.ref b), .val (.ref b)] [(.ref u4), (.ref t4)])) rfl (by rw [hml]; rfl) (Steps.refl _) (argsL := [(.ref u4)]) (rest := []) (lenOf pd_7 rfl) rfl (by show 2 * 0 + _ ≤ _; exact Nat.le_of_eq rfl) (hb hby d16_67) (fun _ _ => ⟨rfl, e19, (by decide : 0 + 0 ≤ _), (by decide : 0 + 0 ≤ _)⟩)
        dsimp only [Pt.U, Pt.locs, Pt.cells, Pt.slots] at X21 l21 y21 z21 st21 hQ21
        subst l21 y21 z21
        obtain ⟨hv21, rfl, e21⟩ := hQ21
        have N21 := Fr.app N16 (Fr.nil n0)
        obtain rfl := own_seqv hv21
        refine Done.st (B := T21.setTop (mkF m 70 #[.val (.ref a), .val (.ref b), .val (.ref b)] [(.int (own_seq cd dd))])) (fun _ k => st21.trans k) ?_
        by_cases hc70 : (own_seq cd dd) = (0 : Int32)
        · refine Done.st (B := T21.setTop (mkF m 77 #[.val (.ref a), .val (.ref b), .val (.ref b)] [])) (fun _ k => XS.ifYes X21.here hx rfl (pc0 := 70) (pc' := 77) rfl (hb hby d16_70) rfl ((if0 _ _).trans (teq hc70).1) (by decide) (by decide) k) ?_
          refine Done.st (B := T21.setTop (mkF m 78 #[.val (.ref a), .val (.ref b), .val (.ref b)] [(.int (0 : Int32))])) (fun _ k => XS.iconst X21.here hx rfl (hb hby d16_77) k) ?_
          obtain ⟨fs, hr, hrun, hended, hW, hsame⟩ := X21.leave (v := some (.int (0 : Int32))) (hlocks := hlk) (fun h => by rw [Bd.returns] at h; cases h)
          refine Done.fin (retN X21 hx (t := .boolean) Bd.returns (by simp) (hb hby d16_78) hr) hrun hended ⟨_, _, rfl, ?_, ⟨_, rfl⟩, hW, hsame.mono (by decide) (by decide)⟩
          show QrmEE Z a b t1 t2 t3 t4 u1 u2 u3 u4 ca cb cc cd da db dc dd z h0 n0 _ T21.heap _
          rw [e21]
          exact ⟨by simp [own_and4, hc28, hc42, hc56, hc70], N21, rfl⟩
        · refine Done.st (B := T21.setTop (mkF m 73 #[.val (.ref a), .val (.ref b), .val (.ref b)] [])) (fun _ k => XS.ifNo X21.here hx rfl (hb hby d16_70) rfl ((if0 _ _).trans (feq hc70).1) k) ?_
          refine Done.st (B := T21.setTop (mkF m 74 #[.val (.ref a), .val (.ref b), .val (.ref b)] [(.int (1 : Int32))])) (fun _ k => XS.iconst X21.here hx rfl (hb hby d16_73) k) ?_
          refine Done.st (B := T21.setTop (mkF m 78 #[.val (.ref a), .val (.ref b), .val (.ref b)] [(.int (1 : Int32))])) (fun _ k => XS.goto X21.here hx rfl (pc0 := 74) (pc' := 78) rfl (hb hby d16_74) (by decide) (by decide) k) ?_
          obtain ⟨fs, hr, hrun, hended, hW, hsame⟩ := X21.leave (v := some (.int (1 : Int32))) (hlocks := hlk) (fun h => by rw [Bd.returns] at h; cases h)
          refine Done.fin (retN X21 hx (t := .boolean) Bd.returns (by simp) (hb hby d16_78) hr) hrun hended ⟨_, _, rfl, ?_, ⟨_, rfl⟩, hW, hsame.mono (by decide) (by decide)⟩
          show QrmEE Z a b t1 t2 t3 t4 u1 u2 u3 u4 ca cb cc cd da db dc dd z h0 n0 _ T21.heap _
          rw [e21]
          exact ⟨by simp [own_and4, hc28, hc42, hc56, hc70], N21, rfl⟩
theorem ef_rm0 (m : MethodId) (x0 : Int64) (x1 : Int64) (x2 : Int64) (x3 : Int64) (x4 : Int32) (x5 : Int32) : entryFrame m #[(.long x0), (.long x1), (.long x2), (.long x3), (.int x4), (.int x5)] maxLocals = mkF m 0 #[.val (.long x0), .second, .val (.long x1), .second, .val (.long x2), .second, .val (.long x3), .second, .val (.int x4), .val (.int x5), .unset, .unset, .unset, .unset, .unset, .unset, .unset, .unset, .unset, .unset, .unset, .unset] [] := by first | (simp [entryFrame, mkF, argsToLocals, Value.category, maxLocals]; done) | rfl
def Qrm0 (Z : State) (x0 : Int64) (x1 : Int64) (x2 : Int64) (x3 : Int64) (x4 : Int32) (x5 : Int32) (z : Int32) (h0 : Heap) (n0 : Nat) (v : Option Value) (h : Heap) (L : List Loc) : Prop := v = some (.int 1) ∧ Fr n0 L
def Prm0 (s : State) (Z : State) (x0 : Int64) (x1 : Int64) (x2 : Int64) (x3 : Int64) (x4 : Int32) (x5 : Int32) (z : Int32) (h0 : Heap) (n0 : Nat) : State → Outcome → Prop := fun U' o => ∃ v L, o = .returned v ∧ Qrm0 Z x0 x1 x2 x3 x4 x5 z h0 n0 v U'.heap L ∧ CHr Z own_EL s.vm s.heap U'.vm U'.heap ∧ ReturnedEndW s o U' L room_1.cells room_1.slots
set_option maxRecDepth 65536 in
set_option maxHeartbeats 40000000 in
theorem rm0 (l : Launch) (Z : State) (a0 : Array Value) (hw : ∀ d ∈ tables_1, d.before a0 Z = true) (ws : List Jvm.Cond) (x0 : Int64) (x1 : Int64) (x2 : Int64) (x3 : Int64) (x4 : Int32) (x5 : Int32) (z : Int32) (h0 : Heap) (n0 : Nat) (Z0 : n0 ≤ h0.size) (S_z : Sta Z h0 "java/lang/String" "COMPACT_STRINGS" "Z" (.int z)) (hz : ¬ z = 0) :
    MetFree l x (head1 (Jvm.Cond.code x code maxLocals ret :: ws) room_1) (fun aa U => aa = #[(.long x0), (.long x1), (.long x2), (.long x3), (.int x4), (.int x5)] ∧ Z.Warmed39 U.vm ∧ U.heap = h0 ∧ CHv Z own_EL U.vm h0) (fun _ _ _ _ _ => True) (fun _ U o U' => ∃ v L, o = .returned v ∧ Qrm0 Z x0 x1 x2 x3 x4 x5 z h0 n0 v U'.heap L ∧ CHr Z own_EL U.vm U.heap U'.vm U'.heap ∧ ReturnedEndW U o U' L room_1.cells room_1.slots) := by
  refine MetFree.of_bodySF (plainFor_of_name pn_1) hisR ?_
  intro p e s m args below meth c s₁ Bd hml0 hP hK
  obtain ⟨rfl, hZ, hh, hC0⟩ := hP
  have hx := Bd.exec
  have hlk : meth.locks = false := by first | exact BodyLoose.notSynchronized Bd | exact Body.notSynchronized Bd
  have hby := Bd.bytes
  have hml : c.maxLocals = 22 := hml0
  have hown : s.vm.findClass "com/example/nameward/nameward/model/ClaimsRecordEqualsPinLaw" = some m.cls := findClass_of_methodNamed Bd.named
  have hnm := (name_of_methodNamed Bd.named Bd.method).1
  have X0 : Stand p l e room_1 (s.setVm s.vm) m #[(.long x0), (.long x1), (.long x2), (.long x3), (.int x4), (.int x5)] below meth c s₁ [] 0 0 := Stand.of_body Bd
  have e0 : s₁.heap = h0 := by rw [← hh, Bd.state]; rfl
  have N0 := Fr.nil n0
  have hEL : EW Z a0 own_EL := EW.cons (hw _ (List.mem_of_getElem? (i := 27) rfl)) (by decide) EW.nil
  have hS0 : s.Since s.vm 0 := (State.WarmedH.refl s).since 0
  have hk0 : 0 ≤ h0.size := Nat.zero_le _
  have R0 : CHr Z own_EL s.vm h0 s.vm h0 := CHr.refl hC0
  show Done p e below (Prm0 s Z x0 x1 x2 x3 x4 x5 z h0 n0) (s₁.setTop (entryFrame m #[(.long x0), (.long x1), (.long x2), (.long x3), (.int x4), (.int x5)] maxLocals))
  refine Done.st (B := s₁.setTop (mkF m 0 #[.val (.long x0), .second, .val (.long x1), .second, .val (.long x2), .second, .val (.long x3), .second, .val (.int x4), .val (.int x5), .unset, .unset, .unset, .unset, .unset, .unset, .unset, .unset, .unset, .unset, .unset, .unset] [])) (fun _ k => castTop (ef_rm0 m x0 x1 x2 x3 x4 x5) k) ?_
  refine Done.st (B := s₁.setTop (mkF m 1 #[.val (.long x0), .second, .val (.long x1), .second, .val (.long x2), .second, .val (.long x3), .second, .val (.int x4), .val (.int x5), .unset, .unset, .unset, .unset, .unset, .unset, .unset, .unset, .unset, .unset, .unset, .unset] [(.long x0)])) (fun _ k => XS.lloadN X0.here hx rfl (hb hby at_0) rfl k) ?_
  obtain ⟨_, _, ⟨T1, L1, k1, n1⟩, -, X1, ⟨Lc1, hQ1, l1, y1, z1⟩, st1⟩ := Jvm.LawKit.callS X0 hx (y := (⟨"com/example/nameward/nameward/model/ClaimsRecordEqualsPinLaw", "hi", "(J)I"⟩ : MethodName)) hown (mvT hZ (hw _ (List.mem_of_getElem? (i := 0) rfl))) (mvT hZ (hw _ (List.mem_of_getElem? (i := 1) rfl))) (mvT hZ (hw _ (List.mem_of_getElem? (i := 2) rfl))) (mvT hZ (hw _ (List.mem_of_getElem? (i := 3) rfl))) (by decide) (backOf (W := 0) (rmhi l Z a0 hw [] x0 h0 n0 Z0) hZ (hw _ (List.mem_of_getElem? (i := 3) rfl)) (hw _ (List.mem_of_getElem? (i := 2) rfl)) (by decide) (by decide)) (g := (mkF m 1 #[.val (.long x0), .second, .val (.long x1), .second, .val (.long x2), .second, .val (.long x3), .second, .val (.int x4), .val (.int x5), .unset, .unset, .unset, .unset, .unset, .unset, .unset, .unset, .unset, .unset, .unset, .unset] [(.long x0)])) rfl (by rw [hml]; rfl) (argsL := [(.long x0)]) (rest := []) (lenOf pd_8 rfl) rfl (by show 2 * 0 + _ ≤ _; exact Nat.le_of_eq rfl) (hb hby at_1) (fun _ _ => ⟨rfl, e0, (by decide : 0 + 0 ≤ _), (by decide : 0 + 0 ≤ _)⟩)
  dsimp only [Pt.U, Pt.locs, Pt.cells, Pt.slots] at X1 l1 y1 z1 st1 hQ1
  subst l1 y1 z1
  obtain ⟨rfl, N1q, e1⟩ := hQ1
  have N1 := Fr.app N0 N1q
  refine Done.st (B := T1.setTop (mkF m 4 #[.val (.long x0), .second, .val (.long x1), .second, .val (.long x2), .second, .val (.long x3), .second, .val (.int x4), .val (.int x5), .unset, .unset, .unset, .unset, .unset, .unset, .unset, .unset, .unset, .unset, .unset, .unset] [(.int (((x0.toUInt64 >>> ((32 : Int32) &&& 0x3f).toInt64.toUInt64).toInt64).toInt32))])) (fun _ k => st1 _ k) ?_
  refine Done.st (B := T1.setTop (mkF m 6 #[.val (.long x0), .second, .val (.long x1), .second, .val (.long x2), .second, .val (.long x3), .second, .val (.int x4), .val (.int x5), .val (.int (((x0.toUInt64 >>> ((32 : Int32) &&& 0x3f).toInt64.toUInt64).toInt64).toInt32)), .unset, .unset, .unset, .unset, .unset, .unset, .unset, .unset, .unset, .unset, .unset] [])) (fun _ k => XS.istore X1.here hx rfl (hb hby at_4) rfl (l' := #[.val (.long x0), .second, .val (.long x1), .second, .val (.long x2), .second, .val (.long x3), .second, .val (.int x4), .val (.int x5), .val (.int (((x0.toUInt64 >>> ((32 : Int32) &&& 0x3f).toInt64.toUInt64).toInt64).toInt32)), .unset, .unset, .unset, .unset, .unset, .unset, .unset, .unset, .unset, .unset, .unset]) rfl k) ?_
  refine Done.st (B := T1.setTop (mkF m 7 #[.val (.long x0), .second, .val (.long x1), .second, .val (.long x2), .second, .val (.long x3), .second, .val (.int x4), .val (.int x5), .val (.int (((x0.toUInt64 >>> ((32 : Int32) &&& 0x3f).toInt64.toUInt64).toInt64).toInt32)), .unset, .unset, .unset, .unset, .unset, .unset, .unset, .unset, .unset, .unset, .unset] [(.long x0)])) (fun _ k => XS.lloadN X1.here hx rfl (hb hby at_6) rfl k) ?_
  obtain ⟨_, _, ⟨T2, L2, k2, n2⟩, -, X2, ⟨Lc2, hQ2, l2, y2, z2⟩, st2⟩ := Jvm.LawKit.callS X1 hx (y := (⟨"com/example/nameward/nameward/model/ClaimsRecordEqualsPinLaw", "lo", "(J)I"⟩ : MethodName)) hown (mvT hZ (hw _ (List.mem_of_getElem? (i := 4) rfl))) (mvT hZ (hw _ (List.mem_of_getElem? (i := 5) rfl))) (mvT hZ (hw _ (List.mem_of_getElem? (i := 2) rfl))) (mvT hZ (hw _ (List.mem_of_getElem? (i := 6) rfl))) (by decide) (backOf (W := 0) (rmlo l Z a0 hw [] x0 h0 n0 Z0) hZ (hw _ (List.mem_of_getElem? (i := 6) rfl)) (hw _ (List.mem_of_getElem? (i := 2) rfl)) (by decide) (by decide)) (g := (mkF m 7 #[.val (.long x0), .second, .val (.long x1), .second, .val (.long x2), .second, .val (.long x3), .second, .val (.int x4), .val (.int x5), .val (.int (((x0.toUInt64 >>> ((32 : Int32) &&& 0x3f).toInt64.toUInt64).toInt64).toInt32)), .unset, .unset, .unset, .unset, .unset, .unset, .unset, .unset, .unset, .unset, .unset] [(.long x0)])) rfl (by rw [hml]; rfl) (argsL := [(.long x0)]) (rest := []) (lenOf pd_8 rfl) rfl (by show 2 * 0 + _ ≤ _; exact Nat.le_of_eq rfl) (hb hby at_7) (fun _ _ => ⟨rfl, e1, (by decide : 0 + 0 ≤ _), (by decide : 0 + 0 ≤ _)⟩)
  dsimp only [Pt.U, Pt.locs, Pt.cells, Pt.slots] at X2 l2 y2 z2 st2 hQ2
  subst l2 y2 z2
  obtain ⟨rfl, N2q, e2⟩ := hQ2
  have N2 := Fr.app N1 N2q
  refine Done.st (B := T2.setTop (mkF m 10 #[.val (.long x0), .second, .val (.long x1), .second, .val (.long x2), .second, .val (.long x3), .second, .val (.int x4), .val (.int x5), .val (.int (((x0.toUInt64 >>> ((32 : Int32) &&& 0x3f).toInt64.toUInt64).toInt64).toInt32)), .unset, .unset, .unset, .unset, .unset, .unset, .unset, .unset, .unset, .unset, .unset] [(.int (x0.toInt32))])) (fun _ k => st2 _ k) ?_
  refine Done.st (B := T2.setTop (mkF m 12 #[.val (.long x0), .second, .val (.long x1), .second, .val (.long x2), .second, .val (.long x3), .second, .val (.int x4), .val (.int x5), .val (.int (((x0.toUInt64 >>> ((32 : Int32) &&& 0x3f).toInt64.toUInt64).toInt64).toInt32)), .val (.int (x0.toInt32)), .unset, .unset, .unset, .unset, .unset, .unset, .unset, .unset, .unset, .unset] [])) (fun _ k => XS.istore X2.here hx rfl (hb hby at_10) rfl (l' := #[.val (.long x0), .second, .val (.long x1), .second, .val (.long x2), .second, .val (.long x3), .second, .val (.int x4), .val (.int x5), .val (.int (((x0.toUInt64 >>> ((32 : Int32) &&& 0x3f).toInt64.toUInt64).toInt64).toInt32)), .val (.int (x0.toInt32)), .unset, .unset, .unset, .unset, .unset, .unset, .unset, .unset, .unset, .unset]) rfl k) ?_
  refine Done.st (B := T2.setTop (mkF m 13 #[.val (.long x0), .second, .val (.long x1), .second, .val (.long x2), .second, .val (.long x3), .second, .val (.int x4), .val (.int x5), .val (.int (((x0.toUInt64 >>> ((32 : Int32) &&& 0x3f).toInt64.toUInt64).toInt64).toInt32)), .val (.int (x0.toInt32)), .unset, .unset, .unset, .unset, .unset, .unset, .unset, .unset, .unset, .unset] [(.long x1)])) (fun _ k => XS.lloadN X2.here hx rfl (hb hby at_12) rfl k) ?_
  obtain ⟨_, _, ⟨T3, L3, k3, n3⟩, -, X3, ⟨Lc3, hQ3, l3, y3, z3⟩, st3⟩ := Jvm.LawKit.callS X2 hx (y := (⟨"com/example/nameward/nameward/model/ClaimsRecordEqualsPinLaw", "hi", "(J)I"⟩ : MethodName)) hown (mvT hZ (hw _ (List.mem_of_getElem? (i := 0) rfl))) (mvT hZ (hw _ (List.mem_of_getElem? (i := 1) rfl))) (mvT hZ (hw _ (List.mem_of_getElem? (i := 2) rfl))) (mvT hZ (hw _ (List.mem_of_getElem? (i := 3) rfl))) (by decide) (backOf (W := 0) (rmhi l Z a0 hw [] x1 h0 n0 Z0) hZ (hw _ (List.mem_of_getElem? (i := 3) rfl)) (hw _ (List.mem_of_getElem? (i := 2) rfl)) (by decide) (by decide)) (g := (mkF m 13 #[.val (.long x0), .second, .val (.long x1), .second, .val (.long x2), .second, .val (.long x3), .second, .val (.int x4), .val (.int x5), .val (.int (((x0.toUInt64 >>> ((32 : Int32) &&& 0x3f).toInt64.toUInt64).toInt64).toInt32)), .val (.int (x0.toInt32)), .unset, .unset, .unset, .unset, .unset, .unset, .unset, .unset, .unset, .unset] [(.long x1)])) rfl (by rw [hml]; rfl) (argsL := [(.long x1)]) (rest := []) (lenOf pd_8 rfl) rfl (by show 2 * 0 + _ ≤ _; exact Nat.le_of_eq rfl) (hb hby at_13) (fun _ _ => ⟨rfl, e2, (by decide : 0 + 0 ≤ _), (by decide : 0 + 0 ≤ _)⟩)
  dsimp only [Pt.U, Pt.locs, Pt.cells, Pt.slots] at X3 l3 y3 z3 st3 hQ3
  subst l3 y3 z3
  obtain ⟨rfl, N3q, e3⟩ := hQ3
  have N3 := Fr.app N2 N3q
  refine Done.st (B := T3.setTop (mkF m 16 #[.val (.long x0), .second, .val (.long x1), .second, .val (.long x2), .second, .val (.long x3), .second, .val (.int x4), .val (.int x5), .val (.int (((x0.toUInt64 >>> ((32 : Int32) &&& 0x3f).toInt64.toUInt64).toInt64).toInt32)), .val (.int (x0.toInt32)), .unset, .unset, .unset, .unset, .unset, .unset, .unset, .unset, .unset, .unset] [(.int (((x1.toUInt64 >>> ((32 : Int32) &&& 0x3f).toInt64.toUInt64).toInt64).toInt32))])) (fun _ k => st3 _ k) ?_
  refine Done.st (B := T3.setTop (mkF m 18 #[.val (.long x0), .second, .val (.long x1), .second, .val (.long x2), .second, .val (.long x3), .second, .val (.int x4), .val (.int x5), .val (.int (((x0.toUInt64 >>> ((32 : Int32) &&& 0x3f).toInt64.toUInt64).toInt64).toInt32)), .val (.int (x0.toInt32)), .val (.int (((x1.toUInt64 >>> ((32 : Int32) &&& 0x3f).toInt64.toUInt64).toInt64).toInt32)), .unset, .unset, .unset, .unset, .unset, .unset, .unset, .unset, .unset] [])) (fun _ k => XS.istore X3.here hx rfl (hb hby at_16) rfl (l' := #[.val (.long x0), .second, .val (.long x1), .second, .val (.long x2), .second, .val (.long x3), .second, .val (.int x4), .val (.int x5), .val (.int (((x0.toUInt64 >>> ((32 : Int32) &&& 0x3f).toInt64.toUInt64).toInt64).toInt32)), .val (.int (x0.toInt32)), .val (.int (((x1.toUInt64 >>> ((32 : Int32) &&& 0x3f).toInt64.toUInt64).toInt64).toInt32)), .unset, .unset, .unset, .unset, .unset, .unset, .unset, .unset, .unset]) rfl k) ?_
  refine Done.st (B := T3.setTop (mkF m 19 #[.val (.long x0), .second, .val (.long x1), .second, .val (.long x2), .second, .val (.long x3), .second, .val (.int x4), .val (.int x5), .val (.int (((x0.toUInt64 >>> ((32 : Int32) &&& 0x3f).toInt64.toUInt64).toInt64).toInt32)), .val (.int (x0.toInt32)), .val (.int (((x1.toUInt64 >>> ((32 : Int32) &&& 0x3f).toInt64.toUInt64).toInt64).toInt32)), .unset, .unset, .unset, .unset, .unset, .unset, .unset, .unset, .unset] [(.long x1)])) (fun _ k => XS.lloadN X3.here hx rfl (hb hby at_18) rfl k) ?_
  obtain ⟨_, _, ⟨T4, L4, k4, n4⟩, -, X4, ⟨Lc4, hQ4, l4, y4, z4⟩, st4⟩ := Jvm.LawKit.callS X3 hx (y := (⟨"com/example/nameward/nameward/model/ClaimsRecordEqualsPinLaw", "lo", "(J)I"⟩ : MethodName)) hown (mvT hZ (hw _ (List.mem_of_getElem? (i := 4) rfl))) (mvT hZ (hw _ (List.mem_of_getElem? (i := 5) rfl))) (mvT hZ (hw _ (List.mem_of_getElem? (i := 2) rfl))) (mvT hZ (hw _ (List.mem_of_getElem? (i := 6) rfl))) (by decide) (backOf (W := 0) (rmlo l Z a0 hw [] x1 h0 n0 Z0) hZ (hw _ (List.mem_of_getElem? (i := 6) rfl)) (hw _ (List.mem_of_getElem? (i := 2) rfl)) (by decide) (by decide)) (g := (mkF m 19 #[.val (.long x0), .second, .val (.long x1), .second, .val (.long x2), .second, .val (.long x3), .second, .val (.int x4), .val (.int x5), .val (.int (((x0.toUInt64 >>> ((32 : Int32) &&& 0x3f).toInt64.toUInt64).toInt64).toInt32)), .val (.int (x0.toInt32)), .val (.int (((x1.toUInt64 >>> ((32 : Int32) &&& 0x3f).toInt64.toUInt64).toInt64).toInt32)), .unset, .unset, .unset, .unset, .unset, .unset, .unset, .unset, .unset] [(.long x1)])) rfl (by rw [hml]; rfl) (argsL := [(.long x1)]) (rest := []) (lenOf pd_8 rfl) rfl (by show 2 * 0 + _ ≤ _; exact Nat.le_of_eq rfl) (hb hby at_19) (fun _ _ => ⟨rfl, e3, (by decide : 0 + 0 ≤ _), (by decide : 0 + 0 ≤ _)⟩)
  dsimp only [Pt.U, Pt.locs, Pt.cells, Pt.slots] at X4 l4 y4 z4 st4 hQ4
  subst l4 y4 z4
  obtain ⟨rfl, N4q, e4⟩ := hQ4
  have N4 := Fr.app N3 N4q
  refine Done.st (B := T4.setTop (mkF m 22 #[.val (.long x0), .second, .val (.long x1), .second, .val (.long x2), .second, .val (.long x3), .second, .val (.int x4), .val (.int x5), .val (.int (((x0.toUInt64 >>> ((32 : Int32) &&& 0x3f).toInt64.toUInt64).toInt64).toInt32)), .val (.int (x0.toInt32)), .val (.int (((x1.toUInt64 >>> ((32 : Int32) &&& 0x3f).toInt64.toUInt64).toInt64).toInt32)), .unset, .unset, .unset, .unset, .unset, .unset, .unset, .unset, .unset] [(.int (x1.toInt32))])) (fun _ k => st4 _ k) ?_
  have j24 : ∀ (Tj24 : State) (hj24 : Heap) (Lj24 : List Loc) (Xj24 : Stand p l e room_1 (s.setVm s.vm) m #[(.long x0), (.long x1), (.long x2), (.long x3), (.int x4), (.int x5)] below meth c Tj24 Lj24 0 0) (ej24 : Tj24.heap = hj24) (Nj24 : Fr n0 Lj24) (Zj24 : n0 ≤ hj24.size) (Cj24 : CHv Z own_EL s.vm hj24) (Rj24 : CHr Z own_EL s.vm h0 s.vm hj24) (hkj24 : 0 ≤ hj24.size) (fj24_0 : Sta Z hj24 "java/lang/String" "COMPACT_STRINGS" "Z" (.int z)) (ia1 : Int32) (io1 : Int32) (ie1 : Int32) (iu1 : Int32), Done p e below (Prm0 s Z x0 x1 x2 x3 x4 x5 z h0 n0) (Tj24.setTop (mkF m 24 #[.val (.long x0), .second, .val (.long x1), .second, .val (.long x2), .second, .val (.long x3), .second, .val (.int x4), .val (.int x5), .val (.int ia1), .val (.int io1), .val (.int ie1), .val (.int iu1), .unset, .unset, .unset, .unset, .unset, .unset, .unset, .unset] [])) := by
    intro  Tj24 hj24 Lj24 Xj24 ej24 Nj24 Zj24 Cj24 Rj24 hkj24 fj24_0 ia1 io1 ie1 iu1 
    have j43 : ∀ (Tj43 : State) (hj43 : Heap) (Lj43 : List Loc) (Xj43 : Stand p l e room_1 (s.setVm s.vm) m #[(.long x0), (.long x1), (.long x2), (.long x3), (.int x4), (.int x5)] below meth c Tj43 Lj43 0 0) (ej43 : Tj43.heap = hj43) (Nj43 : Fr n0 Lj43) (Zj43 : n0 ≤ hj43.size) (Cj43 : CHv Z own_EL s.vm hj43) (Rj43 : CHr Z own_EL s.vm h0 s.vm hj43) (hkj43 : 0 ≤ hj43.size) (fj43_0 : Sta Z hj43 "java/lang/String" "COMPACT_STRINGS" "Z" (.int z)) (ia2 : Int32), Done p e below (Prm0 s Z x0 x1 x2 x3 x4 x5 z h0 n0) (Tj43.setTop (mkF m 43 #[.val (.long x0), .second, .val (.long x1), .second, .val (.long x2), .second, .val (.long x3), .second, .val (.int x4), .val (.int x5), .val (.int ia1), .val (.int io1), .val (.int ie1), .val (.int iu1), .val (.int ia2), .unset, .unset, .unset, .unset, .unset, .unset, .unset] [])) := by
      intro  Tj43 hj43 Lj43 Xj43 ej43 Nj43 Zj43 Cj43 Rj43 hkj43 fj43_0 ia2 
      have j62 : ∀ (Tj62 : State) (hj62 : Heap) (Lj62 : List Loc) (Xj62 : Stand p l e room_1 (s.setVm s.vm) m #[(.long x0), (.long x1), (.long x2), (.long x3), (.int x4), (.int x5)] below meth c Tj62 Lj62 0 0) (ej62 : Tj62.heap = hj62) (Nj62 : Fr n0 Lj62) (Zj62 : n0 ≤ hj62.size) (Cj62 : CHv Z own_EL s.vm hj62) (Rj62 : CHr Z own_EL s.vm h0 s.vm hj62) (hkj62 : 0 ≤ hj62.size) (fj62_0 : Sta Z hj62 "java/lang/String" "COMPACT_STRINGS" "Z" (.int z)) (io2 : Int32), Done p e below (Prm0 s Z x0 x1 x2 x3 x4 x5 z h0 n0) (Tj62.setTop (mkF m 62 #[.val (.long x0), .second, .val (.long x1), .second, .val (.long x2), .second, .val (.long x3), .second, .val (.int x4), .val (.int x5), .val (.int ia1), .val (.int io1), .val (.int ie1), .val (.int iu1), .val (.int ia2), .val (.int io2), .unset, .unset, .unset, .unset, .unset, .unset] [])) := by
        intro  Tj62 hj62 Lj62 Xj62 ej62 Nj62 Zj62 Cj62 Rj62 hkj62 fj62_0 io2 
        have j81 : ∀ (Tj81 : State) (hj81 : Heap) (Lj81 : List Loc) (Xj81 : Stand p l e room_1 (s.setVm s.vm) m #[(.long x0), (.long x1), (.long x2), (.long x3), (.int x4), (.int x5)] below meth c Tj81 Lj81 0 0) (ej81 : Tj81.heap = hj81) (Nj81 : Fr n0 Lj81) (Zj81 : n0 ≤ hj81.size) (Cj81 : CHv Z own_EL s.vm hj81) (Rj81 : CHr Z own_EL s.vm h0 s.vm hj81) (hkj81 : 0 ≤ hj81.size) (fj81_0 : Sta Z hj81 "java/lang/String" "COMPACT_STRINGS" "Z" (.int z)) (ie2 : Int32), Done p e below (Prm0 s Z x0 x1 x2 x3 x4 x5 z h0 n0) (Tj81.setTop (mkF m 81 #[.val (.long x0), .second, .val (.long x1), .second, .val (.long x2), .second, .val (.long x3), .second, .val (.int x4), .val (.int x5), .val (.int ia1), .val (.int io1), .val (.int ie1), .val (.int iu1), .val (.int ia2), .val (.int io2), .val (.int ie2), .unset, .unset, .unset, .unset, .unset] [])) := by
          intro  Tj81 hj81 Lj81 Xj81 ej81 Nj81 Zj81 Cj81 Rj81 hkj81 fj81_0 ie2 
          have j101 : ∀ (Tj101 : State) (hj101 : Heap) (Lj101 : List Loc) (Xj101 : Stand p l e room_1 (s.setVm s.vm) m #[(.long x0), (.long x1), (.long x2), (.long x3), (.int x4), (.int x5)] below meth c Tj101 Lj101 0 0) (ej101 : Tj101.heap = hj101) (Nj101 : Fr n0 Lj101) (Zj101 : n0 ≤ hj101.size) (Cj101 : CHv Z own_EL s.vm hj101) (Rj101 : CHr Z own_EL s.vm h0 s.vm hj101) (hkj101 : 0 ≤ hj101.size) (fj101_0 : Sta Z hj101 "java/lang/String" "COMPACT_STRINGS" "Z" (.int z)) (iu2 : Int32), Done p e below (Prm0 s Z x0 x1 x2 x3 x4 x5 z h0 n0) (Tj101.setTop (mkF m 101 #[.val (.long x0), .second, .val (.long x1), .second, .val (.long x2), .second, .val (.long x3), .second, .val (.int x4), .val (.int x5), .val (.int ia1), .val (.int io1), .val (.int ie1), .val (.int iu1), .val (.int ia2), .val (.int io2), .val (.int ie2), .val (.int iu2), .unset, .unset, .unset, .unset] [])) := by
            intro  Tj101 hj101 Lj101 Xj101 ej101 Nj101 Zj101 Cj101 Rj101 hkj101 fj101_0 iu2 
            obtain ⟨T5, h5, X5, e5, E5, A5, D5, -, st5⟩ := newO Xj101 hx hZ hown (hw _ (List.mem_of_getElem? (i := 7) rfl)) (hw _ (List.mem_of_getElem? (i := 8) rfl)) (hw _ (List.mem_of_getElem? (i := 9) rfl)) ej101 (g := (mkF m 101 #[.val (.long x0), .second, .val (.long x1), .second, .val (.long x2), .second, .val (.long x3), .second, .val (.int x4), .val (.int x5), .val (.int ia1), .val (.int io1), .val (.int ie1), .val (.int iu1), .val (.int ia2), .val (.int io2), .val (.int ie2), .val (.int iu2), .unset, .unset, .unset, .unset] [])) rfl (hb hby at_101) (by decide) (by decide)
            obtain ⟨b5, g5⟩ : ∃ z, z = hj101.size := ⟨_, rfl⟩
            rw [← g5] at A5 D5 st5
            have ge_b5 : n0 ≤ b5 := Nat.le_trans Zj101 (Nat.le_of_eq g5.symm)
            have Z5 : n0 ≤ h5.size := Nat.le_trans Zj101 E5.1
            have F5_aLabel : Fld Z h5 b5 "com/example/nameward/nameward/model/ClaimsRecord" "aLabel" "Ljava/lang/String;" .null := D5 (Or.inr (hw _ (List.mem_of_getElem? (i := 70) rfl))) (ty := (.object "java/lang/String")) (by decide)
            have F5_officialName : Fld Z h5 b5 "com/example/nameward/nameward/model/ClaimsRecord" "officialName" "Ljava/lang/String;" .null := D5 (Or.inr (hw _ (List.mem_of_getElem? (i := 72) rfl))) (ty := (.object "java/lang/String")) (by decide)
            have F5_englishName : Fld Z h5 b5 "com/example/nameward/nameward/model/ClaimsRecord" "englishName" "Ljava/lang/String;" .null := D5 (Or.inr (hw _ (List.mem_of_getElem? (i := 74) rfl))) (ty := (.object "java/lang/String")) (by decide)
            have F5_url : Fld Z h5 b5 "com/example/nameward/nameward/model/ClaimsRecord" "url" "Ljava/lang/String;" .null := D5 (Or.inr (hw _ (List.mem_of_getElem? (i := 76) rfl))) (ty := (.object "java/lang/String")) (by decide)
            have C5 := CHv.ext E5 Cj101
            have R5 := Rj101.trans (CHr.ext E5 Cj101)
            have hk5 := Nat.le_trans hkj101 E5.1
            refine Done.st (B := T5.setTop (mkF m 104 #[.val (.long x0), .second, .val (.long x1), .second, .val (.long x2), .second, .val (.long x3), .second, .val (.int x4), .val (.int x5), .val (.int ia1), .val (.int io1), .val (.int ie1), .val (.int iu1), .val (.int ia2), .val (.int io2), .val (.int ie2), .val (.int iu2), .unset, .unset, .unset, .unset] [(.ref b5)])) (fun _ k => st5 _ k) ?_
            refine Done.st (B := T5.setTop (mkF m 105 #[.val (.long x0), .second, .val (.long x1), .second, .val (.long x2), .second, .val (.long x3), .second, .val (.int x4), .val (.int x5), .val (.int ia1), .val (.int io1), .val (.int ie1), .val (.int iu1), .val (.int ia2), .val (.int io2), .val (.int ie2), .val (.int iu2), .unset, .unset, .unset, .unset] [(.ref b5), (.ref b5)])) (fun _ k => XS.dup X5.here hx rfl (hb hby at_104) rfl rfl k) ?_
            refine Done.st (B := T5.setTop (mkF m 107 #[.val (.long x0), .second, .val (.long x1), .second, .val (.long x2), .second, .val (.long x3), .second, .val (.int x4), .val (.int x5), .val (.int ia1), .val (.int io1), .val (.int ie1), .val (.int iu1), .val (.int ia2), .val (.int io2), .val (.int ie2), .val (.int iu2), .unset, .unset, .unset, .unset] [(.int ia1), (.ref b5), (.ref b5)])) (fun _ k => XS.iload X5.here hx rfl (hb hby at_105) rfl k) ?_
            have c6 := (Sta.ext E5 fj101_0)
            obtain ⟨_, _, ⟨T7, L7, k7, n7⟩, -, X7, hs7, hg7, ⟨Lc7, hQ7, l7, y7, z7, cr7⟩, st7⟩ := callSS X5 hx (y := (⟨"com/example/nameward/nameward/model/ClaimsRecordEqualsPinLaw", "mk", "(I)Ljava/lang/String;"⟩ : MethodName)) hown (mvT hZ (hw _ (List.mem_of_getElem? (i := 10) rfl))) (mvT hZ (hw _ (List.mem_of_getElem? (i := 11) rfl))) (mvT hZ (hw _ (List.mem_of_getElem? (i := 2) rfl))) (mvT hZ (hw _ (List.mem_of_getElem? (i := 12) rfl))) (by decide) (backOfSH (W := 2) (rmM l Z a0 hw [] ia1 z h5 n0 Z5 c6 hz) hZ (hw _ (List.mem_of_getElem? (i := 12) rfl)) (hw _ (List.mem_of_getElem? (i := 2) rfl)) (by decide) (by decide) hEL C5) (g := (mkF m 107 #[.val (.long x0), .second, .val (.long x1), .second, .val (.long x2), .second, .val (.long x3), .second, .val (.int x4), .val (.int x5), .val (.int ia1), .val (.int io1), .val (.int ie1), .val (.int iu1), .val (.int ia2), .val (.int io2), .val (.int ie2), .val (.int iu2), .unset, .unset, .unset, .unset] [(.int ia1), (.ref b5), (.ref b5)])) rfl (by rw [hml]; rfl) (argsL := [(.int ia1)]) (rest := [(.ref b5), (.ref b5)]) (lenOf pd_9 rfl) rfl (by show 2 * 0 + _ ≤ _; exact Nat.le_of_eq rfl) (hb hby at_107) (fun _ _ => ⟨rfl, e5, (by decide : 1 + 4 ≤ _), (by decide : 4 + 10 ≤ _)⟩)
            dsimp only [Pt.U, Pt.locs, Pt.cells, Pt.slots] at X7 l7 y7 z7 st7 hQ7 hs7 hg7 cr7
            subst l7 y7 z7
            obtain ⟨X7, hS7, hZ, hown⟩ := rebS hS0 (by rw [e5]; exact hk5) X7 hs7 hg7 hZ hown
            have R7 := R5.trans cr7
            have C7 := cr7.1
            have hk7 := Nat.le_refl T7.heap.size
            obtain ⟨s107, rfl, N7q, sz7, K7, f7_0⟩ := hQ7
            have N7 := Fr.app Nj101 N7q
            have ne_b5_s107 : b5 ≠ s107 := Nat.ne_of_lt (Nat.lt_of_lt_of_le A5.lt sz7)
            have ge_s107 : n0 ≤ s107 := Nat.le_trans Z5 sz7
            have Z7 : n0 ≤ T7.heap.size := Nat.le_trans Z5 K7.1
            refine Done.st (B := T7.setTop (mkF m 110 #[.val (.long x0), .second, .val (.long x1), .second, .val (.long x2), .second, .val (.long x3), .second, .val (.int x4), .val (.int x5), .val (.int ia1), .val (.int io1), .val (.int ie1), .val (.int iu1), .val (.int ia2), .val (.int io2), .val (.int ie2), .val (.int iu2), .unset, .unset, .unset, .unset] [(.ref s107), (.ref b5), (.ref b5)])) (fun _ k => st7.trans k) ?_
            refine Done.st (B := T7.setTop (mkF m 112 #[.val (.long x0), .second, .val (.long x1), .second, .val (.long x2), .second, .val (.long x3), .second, .val (.int x4), .val (.int x5), .val (.int ia1), .val (.int io1), .val (.int ie1), .val (.int iu1), .val (.int ia2), .val (.int io2), .val (.int ie2), .val (.int iu2), .unset, .unset, .unset, .unset] [(.int io1), (.ref s107), (.ref b5), (.ref b5)])) (fun _ k => XS.iload X7.here hx rfl (hb hby at_110) rfl k) ?_
            have c8 := (own_sta_keep c6 K7 all0)
            obtain ⟨_, _, ⟨T9, L9, k9, n9⟩, -, X9, hs9, hg9, ⟨Lc9, hQ9, l9, y9, z9, cr9⟩, st9⟩ := callSS X7 hx (y := (⟨"com/example/nameward/nameward/model/ClaimsRecordEqualsPinLaw", "mk", "(I)Ljava/lang/String;"⟩ : MethodName)) hown (mvT hZ (hw _ (List.mem_of_getElem? (i := 10) rfl))) (mvT hZ (hw _ (List.mem_of_getElem? (i := 11) rfl))) (mvT hZ (hw _ (List.mem_of_getElem? (i := 2) rfl))) (mvT hZ (hw _ (List.mem_of_getElem? (i := 12) rfl))) (by decide) (backOfSH (W := 3) (rmM l Z a0 hw [] io1 z T7.heap n0 Z7 c8 hz) hZ (hw _ (List.mem_of_getElem? (i := 12) rfl)) (hw _ (List.mem_of_getElem? (i := 2) rfl)) (by decide) (by decide) hEL C7) (g := (mkF m 112 #[.val (.long x0), .second, .val (.long x1), .second, .val (.long x2), .second, .val (.long x3), .second, .val (.int x4), .val (.int x5), .val (.int ia1), .val (.int io1), .val (.int ie1), .val (.int iu1), .val (.int ia2), .val (.int io2), .val (.int ie2), .val (.int iu2), .unset, .unset, .unset, .unset] [(.int io1), (.ref s107), (.ref b5), (.ref b5)])) rfl (by rw [hml]; rfl) (argsL := [(.int io1)]) (rest := [(.ref s107), (.ref b5), (.ref b5)]) (lenOf pd_9 rfl) rfl (by show 2 * 0 + _ ≤ _; exact Nat.le_of_eq rfl) (hb hby at_112) (fun _ _ => ⟨rfl, rfl, (by decide : 5 + 4 ≤ _), (by decide : 14 + 10 ≤ _)⟩)
            dsimp only [Pt.U, Pt.locs, Pt.cells, Pt.slots] at X9 l9 y9 z9 st9 hQ9 hs9 hg9 cr9
            subst l9 y9 z9
            obtain ⟨X9, hS9, hZ, hown⟩ := rebS hS7 hk7 X9 hs9 hg9 hZ hown
            have R9 := R7.trans cr9
            have C9 := cr9.1
            have hk9 := Nat.le_refl T9.heap.size
            have c10 := (A5.keep K7)
            obtain ⟨s112, rfl, N9q, sz9, K9, f9_0⟩ := hQ9
            have N9 := Fr.app N7 N9q
            have ne_b5_s112 : b5 ≠ s112 := Nat.ne_of_lt (Nat.lt_of_lt_of_le c10.lt sz9)
            have ne_s107_s112 : s107 ≠ s112 := Nat.ne_of_lt (Nat.lt_of_lt_of_le f7_0.lt sz9)
            have ge_s112 : n0 ≤ s112 := Nat.le_trans Z7 sz9
            have Z9 : n0 ≤ T9.heap.size := Nat.le_trans Z7 K9.1
            refine Done.st (B := T9.setTop (mkF m 115 #[.val (.long x0), .second, .val (.long x1), .second, .val (.long x2), .second, .val (.long x3), .second, .val (.int x4), .val (.int x5), .val (.int ia1), .val (.int io1), .val (.int ie1), .val (.int iu1), .val (.int ia2), .val (.int io2), .val (.int ie2), .val (.int iu2), .unset, .unset, .unset, .unset] [(.ref s112), (.ref s107), (.ref b5), (.ref b5)])) (fun _ k => st9.trans k) ?_
            refine Done.st (B := T9.setTop (mkF m 117 #[.val (.long x0), .second, .val (.long x1), .second, .val (.long x2), .second, .val (.long x3), .second, .val (.int x4), .val (.int x5), .val (.int ia1), .val (.int io1), .val (.int ie1), .val (.int iu1), .val (.int ia2), .val (.int io2), .val (.int ie2), .val (.int iu2), .unset, .unset, .unset, .unset] [(.int ie1), (.ref s112), (.ref s107), (.ref b5), (.ref b5)])) (fun _ k => XS.iload X9.here hx rfl (hb hby at_115) rfl k) ?_
            have c11 := (own_sta_keep c8 K9 all0)
            obtain ⟨_, _, ⟨T12, L12, k12, n12⟩, -, X12, hs12, hg12, ⟨Lc12, hQ12, l12, y12, z12, cr12⟩, st12⟩ := callSS X9 hx (y := (⟨"com/example/nameward/nameward/model/ClaimsRecordEqualsPinLaw", "mk", "(I)Ljava/lang/String;"⟩ : MethodName)) hown (mvT hZ (hw _ (List.mem_of_getElem? (i := 10) rfl))) (mvT hZ (hw _ (List.mem_of_getElem? (i := 11) rfl))) (mvT hZ (hw _ (List.mem_of_getElem? (i := 2) rfl))) (mvT hZ (hw _ (List.mem_of_getElem? (i := 12) rfl))) (by decide) (backOfSH (W := 4) (rmM l Z a0 hw [] ie1 z T9.heap n0 Z9 c11 hz) hZ (hw _ (List.mem_of_getElem? (i := 12) rfl)) (hw _ (List.mem_of_getElem? (i := 2) rfl)) (by decide) (by decide) hEL C9) (g := (mkF m 117 #[.val (.long x0), .second, .val (.long x1), .second, .val (.long x2), .second, .val (.long x3), .second, .val (.int x4), .val (.int x5), .val (.int ia1), .val (.int io1), .val (.int ie1), .val (.int iu1), .val (.int ia2), .val (.int io2), .val (.int ie2), .val (.int iu2), .unset, .unset, .unset, .unset] [(.int ie1), (.ref s112), (.ref s107), (.ref b5), (.ref b5)])) rfl (by rw [hml]; rfl) (argsL := [(.int ie1)]) (rest := [(.ref s112), (.ref s107), (.ref b5), (.ref b5)]) (lenOf pd_9 rfl) rfl (by show 2 * 0 + _ ≤ _; exact Nat.le_of_eq rfl) (hb hby at_117) (fun _ _ => ⟨rfl, rfl, (by decide : 9 + 4 ≤ _), (by decide : 24 + 10 ≤ _)⟩)
            dsimp only [Pt.U, Pt.locs, Pt.cells, Pt.slots] at X12 l12 y12 z12 st12 hQ12 hs12 hg12 cr12
            subst l12 y12 z12
            obtain ⟨X12, hS12, hZ, hown⟩ := rebS hS9 hk9 X12 hs12 hg12 hZ hown
            have R12 := R9.trans cr12
            have C12 := cr12.1
            have hk12 := Nat.le_refl T12.heap.size
            have c13 := (c10.keep K9)
            have c14 := (f7_0.keep K9 nin0 all0)
            obtain ⟨s117, rfl, N12q, sz12, K12, f12_0⟩ := hQ12
            have N12 := Fr.app N9 N12q
            have ne_b5_s117 : b5 ≠ s117 := Nat.ne_of_lt (Nat.lt_of_lt_of_le c13.lt sz12)
            have ne_s107_s117 : s107 ≠ s117 := Nat.ne_of_lt (Nat.lt_of_lt_of_le c14.lt sz12)
            have ne_s112_s117 : s112 ≠ s117 := Nat.ne_of_lt (Nat.lt_of_lt_of_le f9_0.lt sz12)
            have ge_s117 : n0 ≤ s117 := Nat.le_trans Z9 sz12
            have Z12 : n0 ≤ T12.heap.size := Nat.le_trans Z9 K12.1
            refine Done.st (B := T12.setTop (mkF m 120 #[.val (.long x0), .second, .val (.long x1), .second, .val (.long x2), .second, .val (.long x3), .second, .val (.int x4), .val (.int x5), .val (.int ia1), .val (.int io1), .val (.int ie1), .val (.int iu1), .val (.int ia2), .val (.int io2), .val (.int ie2), .val (.int iu2), .unset, .unset, .unset, .unset] [(.ref s117), (.ref s112), (.ref s107), (.ref b5), (.ref b5)])) (fun _ k => st12.trans k) ?_
            refine Done.st (B := T12.setTop (mkF m 122 #[.val (.long x0), .second, .val (.long x1), .second, .val (.long x2), .second, .val (.long x3), .second, .val (.int x4), .val (.int x5), .val (.int ia1), .val (.int io1), .val (.int ie1), .val (.int iu1), .val (.int ia2), .val (.int io2), .val (.int ie2), .val (.int iu2), .unset, .unset, .unset, .unset] [(.int iu1), (.ref s117), (.ref s112), (.ref s107), (.ref b5), (.ref b5)])) (fun _ k => XS.iload X12.here hx rfl (hb hby at_120) rfl k) ?_
            have c15 := (own_sta_keep c11 K12 all0)
            obtain ⟨_, _, ⟨T16, L16, k16, n16⟩, -, X16, hs16, hg16, ⟨Lc16, hQ16, l16, y16, z16, cr16⟩, st16⟩ := callSS X12 hx (y := (⟨"com/example/nameward/nameward/model/ClaimsRecordEqualsPinLaw", "mk", "(I)Ljava/lang/String;"⟩ : MethodName)) hown (mvT hZ (hw _ (List.mem_of_getElem? (i := 10) rfl))) (mvT hZ (hw _ (List.mem_of_getElem? (i := 11) rfl))) (mvT hZ (hw _ (List.mem_of_getElem? (i := 2) rfl))) (mvT hZ (hw _ (List.mem_of_getElem? (i := 12) rfl))) (by decide) (backOfSH (W := 5) (rmM l Z a0 hw [] iu1 z T12.heap n0 Z12 c15 hz) hZ (hw _ (List.mem_of_getElem? (i := 12) rfl)) (hw _ (List.mem_of_getElem? (i := 2) rfl)) (by decide) (by decide) hEL C12) (g := (mkF m 122 #[.val (.long x0), .second, .val (.long x1), .second, .val (.long x2), .second, .val (.long x3), .second, .val (.int x4), .val (.int x5), .val (.int ia1), .val (.int io1), .val (.int ie1), .val (.int iu1), .val (.int ia2), .val (.int io2), .val (.int ie2), .val (.int iu2), .unset, .unset, .unset, .unset] [(.int iu1), (.ref s117), (.ref s112), (.ref s107), (.ref b5), (.ref b5)])) rfl (by rw [hml]; rfl) (argsL := [(.int iu1)]) (rest := [(.ref s117), (.ref s112), (.ref s107), (.ref b5), (.ref b5)]) (lenOf pd_9 rfl) rfl (by show 2 * 0 + _ ≤ _; exact Nat.le_of_eq rfl) (hb hby at_122) (fun _ _ => ⟨rfl, rfl, (by decide : 13 + 4 ≤ _), (by decide : 34 + 10 ≤ _)⟩)
            dsimp only [Pt.U, Pt.locs, Pt.cells, Pt.slots] at X16 l16 y16 z16 st16 hQ16 hs16 hg16 cr16
            subst l16 y16 z16
            obtain ⟨X16, hS16, hZ, hown⟩ := rebS hS12 hk12 X16 hs16 hg16 hZ hown
            have R16 := R12.trans cr16
            have C16 := cr16.1
            have hk16 := Nat.le_refl T16.heap.size
            have c17 := (c13.keep K12)
            have c18 := (c14.keep K12 nin0 all0)
            have c19 := (f9_0.keep K12 nin0 all0)
            obtain ⟨s122, rfl, N16q, sz16, K16, f16_0⟩ := hQ16
            have N16 := Fr.app N12 N16q
            have ne_b5_s122 : b5 ≠ s122 := Nat.ne_of_lt (Nat.lt_of_lt_of_le c17.lt sz16)
            have ne_s107_s122 : s107 ≠ s122 := Nat.ne_of_lt (Nat.lt_of_lt_of_le c18.lt sz16)
            have ne_s112_s122 : s112 ≠ s122 := Nat.ne_of_lt (Nat.lt_of_lt_of_le c19.lt sz16)
            have ne_s117_s122 : s117 ≠ s122 := Nat.ne_of_lt (Nat.lt_of_lt_of_le f12_0.lt sz16)
            have ge_s122 : n0 ≤ s122 := Nat.le_trans Z12 sz16
            have Z16 : n0 ≤ T16.heap.size := Nat.le_trans Z12 K16.1
            refine Done.st (B := T16.setTop (mkF m 125 #[.val (.long x0), .second, .val (.long x1), .second, .val (.long x2), .second, .val (.long x3), .second, .val (.int x4), .val (.int x5), .val (.int ia1), .val (.int io1), .val (.int ie1), .val (.int iu1), .val (.int ia2), .val (.int io2), .val (.int ie2), .val (.int iu2), .unset, .unset, .unset, .unset] [(.ref s122), (.ref s117), (.ref s112), (.ref s107), (.ref b5), (.ref b5)])) (fun _ k => st16.trans k) ?_
            have c20 := (c18.keep K16 nin0 all0)
            have c21 := (c19.keep K16 nin0 all0)
            have c22 := (f12_0.keep K16 nin0 all0)
            have c23 := ((((F5_aLabel.keep K7 nin0).keep K9 nin0).keep K12 nin0).keep K16 nin0)
            have c24 := ((((F5_officialName.keep K7 nin0).keep K9 nin0).keep K12 nin0).keep K16 nin0)
            have c25 := ((((F5_englishName.keep K7 nin0).keep K9 nin0).keep K12 nin0).keep K16 nin0)
            have c26 := ((((F5_url.keep K7 nin0).keep K9 nin0).keep K12 nin0).keep K16 nin0)
            have c27 := (c17.keep K16)
            obtain ⟨_, _, ⟨T28, L28, k28, n28⟩, -, X28, ⟨Lc28, hQ28, l28, y28, z28⟩, st28⟩ := X16.specialBack hx (y := (⟨"com/example/nameward/nameward/model/ClaimsRecord", "<init>", "(Ljava/lang/String;Ljava/lang/String;Ljava/lang/String;Ljava/lang/String;)V"⟩ : MethodName)) rfl hown (mvT hZ (hw _ (List.mem_of_getElem? (i := 60) rfl))) (mvT hZ (hw _ (List.mem_of_getElem? (i := 61) rfl))) (mvT hZ (hw _ (List.mem_of_getElem? (i := 62) rfl))) (by decide) (backOf (W := 1) (rmI l Z a0 hw [] b5 s107 s112 s117 s122 T16.heap n0 Z16 c23 c24 c25 c26 c27 ge_b5 (Str.exa c20) (Str.exa c21) (Str.exa c22) (Str.exa f16_0)) hZ (hw _ (List.mem_of_getElem? (i := 62) rfl)) (hw _ (List.mem_of_getElem? (i := 9) rfl)) (by decide) (by decide)) (g := (mkF m 125 #[.val (.long x0), .second, .val (.long x1), .second, .val (.long x2), .second, .val (.long x3), .second, .val (.int x4), .val (.int x5), .val (.int ia1), .val (.int io1), .val (.int ie1), .val (.int iu1), .val (.int ia2), .val (.int io2), .val (.int ie2), .val (.int iu2), .unset, .unset, .unset, .unset] [(.ref s122), (.ref s117), (.ref s112), (.ref s107), (.ref b5), (.ref b5)])) rfl (by rw [hml]; rfl) (Steps.refl _) (a := b5) (argsL := [(.ref s107), (.ref s112), (.ref s117), (.ref s122)]) (rest := [(.ref b5)]) (lenOf pd_10 rfl) rfl (by show 2 * 0 + _ ≤ _; exact Nat.le_of_eq rfl) (hb hby at_125) (fun _ _ => ⟨rfl, rfl, (by decide : 17 + 0 ≤ _), (by decide : 44 + 0 ≤ _)⟩)
            dsimp only [Pt.U, Pt.locs, Pt.cells, Pt.slots] at X28 l28 y28 z28 st28 hQ28
            subst l28 y28 z28
            obtain ⟨rfl, N28q, K28, f28_0, f28_1, f28_2, f28_3, f28_4⟩ := hQ28
            have N28 := Fr.app N16 N28q
            have na28_b5 := own_na_exa c27 (hw _ (List.mem_of_getElem? (i := 8) rfl))
            have C28 := CHv.keep K28 (sfS (Safe.exa (EL := own_EL) hZ.alike c27 (by decide) (by decide)) sf0) C16
            have R28 := R16.trans (CHr.keep K28 (sfS (Safe.exa (EL := own_EL) hZ.alike c27 (by decide) (by decide)) sf0) C16)
            have hk28 := Nat.le_trans hk16 K28.1
            have Z28 : n0 ≤ T28.heap.size := Nat.le_trans Z16 K28.1
            refine Done.st (B := T28.setTop (mkF m 128 #[.val (.long x0), .second, .val (.long x1), .second, .val (.long x2), .second, .val (.long x3), .second, .val (.int x4), .val (.int x5), .val (.int ia1), .val (.int io1), .val (.int ie1), .val (.int iu1), .val (.int ia2), .val (.int io2), .val (.int ie2), .val (.int iu2), .unset, .unset, .unset, .unset] [(.ref b5)])) (fun _ k => st28.trans k) ?_
            refine Done.st (B := T28.setTop (mkF m 130 #[.val (.long x0), .second, .val (.long x1), .second, .val (.long x2), .second, .val (.long x3), .second, .val (.int x4), .val (.int x5), .val (.int ia1), .val (.int io1), .val (.int ie1), .val (.int iu1), .val (.int ia2), .val (.int io2), .val (.int ie2), .val (.int iu2), .val (.ref b5), .unset, .unset, .unset] [])) (fun _ k => XS.astore X28.here hx rfl (hb hby at_128) rfl rfl (l' := #[.val (.long x0), .second, .val (.long x1), .second, .val (.long x2), .second, .val (.long x3), .second, .val (.int x4), .val (.int x5), .val (.int ia1), .val (.int io1), .val (.int ie1), .val (.int iu1), .val (.int ia2), .val (.int io2), .val (.int ie2), .val (.int iu2), .val (.ref b5), .unset, .unset, .unset]) rfl k) ?_
            obtain ⟨T29, h29, X29, e29, E29, A29, D29, -, st29⟩ := newO X28 hx hZ hown (hw _ (List.mem_of_getElem? (i := 7) rfl)) (hw _ (List.mem_of_getElem? (i := 8) rfl)) (hw _ (List.mem_of_getElem? (i := 9) rfl)) rfl (g := (mkF m 130 #[.val (.long x0), .second, .val (.long x1), .second, .val (.long x2), .second, .val (.long x3), .second, .val (.int x4), .val (.int x5), .val (.int ia1), .val (.int io1), .val (.int ie1), .val (.int iu1), .val (.int ia2), .val (.int io2), .val (.int ie2), .val (.int iu2), .val (.ref b5), .unset, .unset, .unset] [])) rfl (hb hby at_130) (by decide) (by decide)
            have c30 := (c20.keep K28 (ninS (Ne.symm ne_b5_s107) nin0) (allS na28_b5 all0))
            have c31 := (c21.keep K28 (ninS (Ne.symm ne_b5_s112) nin0) (allS na28_b5 all0))
            have c32 := (c22.keep K28 (ninS (Ne.symm ne_b5_s117) nin0) (allS na28_b5 all0))
            have c33 := (f16_0.keep K28 (ninS (Ne.symm ne_b5_s122) nin0) (allS na28_b5 all0))
            obtain ⟨b29, g29⟩ : ∃ z, z = T28.heap.size := ⟨_, rfl⟩
            rw [← g29] at A29 D29 st29
            have ne_b5_b29 : b5 ≠ b29 := Nat.ne_of_lt (Nat.lt_of_lt_of_le f28_0.lt (Nat.le_of_eq g29.symm))
            have ne_s107_b29 : s107 ≠ b29 := Nat.ne_of_lt (Nat.lt_of_lt_of_le c30.lt (Nat.le_of_eq g29.symm))
            have ne_s112_b29 : s112 ≠ b29 := Nat.ne_of_lt (Nat.lt_of_lt_of_le c31.lt (Nat.le_of_eq g29.symm))
            have ne_s117_b29 : s117 ≠ b29 := Nat.ne_of_lt (Nat.lt_of_lt_of_le c32.lt (Nat.le_of_eq g29.symm))
            have ne_s122_b29 : s122 ≠ b29 := Nat.ne_of_lt (Nat.lt_of_lt_of_le c33.lt (Nat.le_of_eq g29.symm))
            have ge_b29 : n0 ≤ b29 := Nat.le_trans Z28 (Nat.le_of_eq g29.symm)
            have Z29 : n0 ≤ h29.size := Nat.le_trans Z28 E29.1
            have F29_aLabel : Fld Z h29 b29 "com/example/nameward/nameward/model/ClaimsRecord" "aLabel" "Ljava/lang/String;" .null := D29 (Or.inr (hw _ (List.mem_of_getElem? (i := 70) rfl))) (ty := (.object "java/lang/String")) (by decide)
            have F29_officialName : Fld Z h29 b29 "com/example/nameward/nameward/model/ClaimsRecord" "officialName" "Ljava/lang/String;" .null := D29 (Or.inr (hw _ (List.mem_of_getElem? (i := 72) rfl))) (ty := (.object "java/lang/String")) (by decide)
            have F29_englishName : Fld Z h29 b29 "com/example/nameward/nameward/model/ClaimsRecord" "englishName" "Ljava/lang/String;" .null := D29 (Or.inr (hw _ (List.mem_of_getElem? (i := 74) rfl))) (ty := (.object "java/lang/String")) (by decide)
            have F29_url : Fld Z h29 b29 "com/example/nameward/nameward/model/ClaimsRecord" "url" "Ljava/lang/String;" .null := D29 (Or.inr (hw _ (List.mem_of_getElem? (i := 76) rfl))) (ty := (.object "java/lang/String")) (by decide)
            have C29 := CHv.ext E29 C28
            have R29 := R28.trans (CHr.ext E29 C28)
            have hk29 := Nat.le_trans hk28 E29.1
            refine Done.st (B := T29.setTop (mkF m 133 #[.val (.long x0), .second, .val (.long x1), .second, .val (.long x2), .second, .val (.long x3), .second, .val (.int x4), .val (.int x5), .val (.int ia1), .val (.int io1), .val (.int ie1), .val (.int iu1), .val (.int ia2), .val (.int io2), .val (.int ie2), .val (.int iu2), .val (.ref b5), .unset, .unset, .unset] [(.ref b29)])) (fun _ k => st29 _ k) ?_
            refine Done.st (B := T29.setTop (mkF m 134 #[.val (.long x0), .second, .val (.long x1), .second, .val (.long x2), .second, .val (.long x3), .second, .val (.int x4), .val (.int x5), .val (.int ia1), .val (.int io1), .val (.int ie1), .val (.int iu1), .val (.int ia2), .val (.int io2), .val (.int ie2), .val (.int iu2), .val (.ref b5), .unset, .unset, .unset] [(.ref b29), (.ref b29)])) (fun _ k => XS.dup X29.here hx rfl (hb hby at_133) rfl rfl k) ?_
            refine Done.st (B := T29.setTop (mkF m 136 #[.val (.long x0), .second, .val (.long x1), .second, .val (.long x2), .second, .val (.long x3), .second, .val (.int x4), .val (.int x5), .val (.int ia1), .val (.int io1), .val (.int ie1), .val (.int iu1), .val (.int ia2), .val (.int io2), .val (.int ie2), .val (.int iu2), .val (.ref b5), .unset, .unset, .unset] [(.int ia2), (.ref b29), (.ref b29)])) (fun _ k => XS.iload X29.here hx rfl (hb hby at_134) rfl k) ?_
            have c34 := (Sta.ext E29 (own_sta_keep (own_sta_keep c15 K16 all0) K28 (allS (own_ns_exa c27) all0)))
            obtain ⟨_, _, ⟨T35, L35, k35, n35⟩, -, X35, hs35, hg35, ⟨Lc35, hQ35, l35, y35, z35, cr35⟩, st35⟩ := callSS X29 hx (y := (⟨"com/example/nameward/nameward/model/ClaimsRecordEqualsPinLaw", "mk", "(I)Ljava/lang/String;"⟩ : MethodName)) hown (mvT hZ (hw _ (List.mem_of_getElem? (i := 10) rfl))) (mvT hZ (hw _ (List.mem_of_getElem? (i := 11) rfl))) (mvT hZ (hw _ (List.mem_of_getElem? (i := 2) rfl))) (mvT hZ (hw _ (List.mem_of_getElem? (i := 12) rfl))) (by decide) (backOfSH (W := 2) (rmM l Z a0 hw [] ia2 z h29 n0 Z29 c34 hz) hZ (hw _ (List.mem_of_getElem? (i := 12) rfl)) (hw _ (List.mem_of_getElem? (i := 2) rfl)) (by decide) (by decide) hEL C29) (g := (mkF m 136 #[.val (.long x0), .second, .val (.long x1), .second, .val (.long x2), .second, .val (.long x3), .second, .val (.int x4), .val (.int x5), .val (.int ia1), .val (.int io1), .val (.int ie1), .val (.int iu1), .val (.int ia2), .val (.int io2), .val (.int ie2), .val (.int iu2), .val (.ref b5), .unset, .unset, .unset] [(.int ia2), (.ref b29), (.ref b29)])) rfl (by rw [hml]; rfl) (argsL := [(.int ia2)]) (rest := [(.ref b29), (.ref b29)]) (lenOf pd_9 rfl) rfl (by show 2 * 0 + _ ≤ _; exact Nat.le_of_eq rfl) (hb hby at_136) (fun _ _ => ⟨rfl, e29, (by decide : 18 + 4 ≤ _), (by decide : 48 + 10 ≤ _)⟩)
            dsimp only [Pt.U, Pt.locs, Pt.cells, Pt.slots] at X35 l35 y35 z35 st35 hQ35 hs35 hg35 cr35
            subst l35 y35 z35
            obtain ⟨X35, hS35, hZ, hown⟩ := rebS hS16 (by rw [e29]; exact hk29) X35 hs35 hg35 hZ hown
            have R35 := R29.trans cr35
            have C35 := cr35.1
            have hk35 := Nat.le_refl T35.heap.size
            have c36 := (Exa.ext E29 f28_0)
            have c37 := (c30.ext E29)
            have c38 := (c31.ext E29)
            have c39 := (c32.ext E29)
            have c40 := (c33.ext E29)
            obtain ⟨s136, rfl, N35q, sz35, K35, f35_0⟩ := hQ35
            have N35 := Fr.app N28 N35q
            have ne_b5_s136 : b5 ≠ s136 := Nat.ne_of_lt (Nat.lt_of_lt_of_le c36.lt sz35)
            have ne_s107_s136 : s107 ≠ s136 := Nat.ne_of_lt (Nat.lt_of_lt_of_le c37.lt sz35)
            have ne_s112_s136 : s112 ≠ s136 := Nat.ne_of_lt (Nat.lt_of_lt_of_le c38.lt sz35)
            have ne_s117_s136 : s117 ≠ s136 := Nat.ne_of_lt (Nat.lt_of_lt_of_le c39.lt sz35)
            have ne_s122_s136 : s122 ≠ s136 := Nat.ne_of_lt (Nat.lt_of_lt_of_le c40.lt sz35)
            have ne_b29_s136 : b29 ≠ s136 := Nat.ne_of_lt (Nat.lt_of_lt_of_le A29.lt sz35)
            have ge_s136 : n0 ≤ s136 := Nat.le_trans Z29 sz35
            have Z35 : n0 ≤ T35.heap.size := Nat.le_trans Z29 K35.1
            refine Done.st (B := T35.setTop (mkF m 139 #[.val (.long x0), .second, .val (.long x1), .second, .val (.long x2), .second, .val (.long x3), .second, .val (.int x4), .val (.int x5), .val (.int ia1), .val (.int io1), .val (.int ie1), .val (.int iu1), .val (.int ia2), .val (.int io2), .val (.int ie2), .val (.int iu2), .val (.ref b5), .unset, .unset, .unset] [(.ref s136), (.ref b29), (.ref b29)])) (fun _ k => st35.trans k) ?_
            refine Done.st (B := T35.setTop (mkF m 141 #[.val (.long x0), .second, .val (.long x1), .second, .val (.long x2), .second, .val (.long x3), .second, .val (.int x4), .val (.int x5), .val (.int ia1), .val (.int io1), .val (.int ie1), .val (.int iu1), .val (.int ia2), .val (.int io2), .val (.int ie2), .val (.int iu2), .val (.ref b5), .unset, .unset, .unset] [(.int io2), (.ref s136), (.ref b29), (.ref b29)])) (fun _ k => XS.iload X35.here hx rfl (hb hby at_139) rfl k) ?_
            have c41 := (own_sta_keep c34 K35 all0)
            obtain ⟨_, _, ⟨T42, L42, k42, n42⟩, -, X42, hs42, hg42, ⟨Lc42, hQ42, l42, y42, z42, cr42⟩, st42⟩ := callSS X35 hx (y := (⟨"com/example/nameward/nameward/model/ClaimsRecordEqualsPinLaw", "mk", "(I)Ljava/lang/String;"⟩ : MethodName)) hown (mvT hZ (hw _ (List.mem_of_getElem? (i := 10) rfl))) (mvT hZ (hw _ (List.mem_of_getElem? (i := 11) rfl))) (mvT hZ (hw _ (List.mem_of_getElem? (i := 2) rfl))) (mvT hZ (hw _ (List.mem_of_getElem? (i := 12) rfl))) (by decide) (backOfSH (W := 3) (rmM l Z a0 hw [] io2 z T35.heap n0 Z35 c41 hz) hZ (hw _ (List.mem_of_getElem? (i := 12) rfl)) (hw _ (List.mem_of_getElem? (i := 2) rfl)) (by decide) (by decide) hEL C35) (g := (mkF m 141 #[.val (.long x0), .second, .val (.long x1), .second, .val (.long x2), .second, .val (.long x3), .second, .val (.int x4), .val (.int x5), .val (.int ia1), .val (.int io1), .val (.int ie1), .val (.int iu1), .val (.int ia2), .val (.int io2), .val (.int ie2), .val (.int iu2), .val (.ref b5), .unset, .unset, .unset] [(.int io2), (.ref s136), (.ref b29), (.ref b29)])) rfl (by rw [hml]; rfl) (argsL := [(.int io2)]) (rest := [(.ref s136), (.ref b29), (.ref b29)]) (lenOf pd_9 rfl) rfl (by show 2 * 0 + _ ≤ _; exact Nat.le_of_eq rfl) (hb hby at_141) (fun _ _ => ⟨rfl, rfl, (by decide : 22 + 4 ≤ _), (by decide : 58 + 10 ≤ _)⟩)
            dsimp only [Pt.U, Pt.locs, Pt.cells, Pt.slots] at X42 l42 y42 z42 st42 hQ42 hs42 hg42 cr42
            subst l42 y42 z42
            obtain ⟨X42, hS42, hZ, hown⟩ := rebS hS35 hk35 X42 hs42 hg42 hZ hown
            have R42 := R35.trans cr42
            have C42 := cr42.1
            have hk42 := Nat.le_refl T42.heap.size
            have c43 := (c36.keep K35)
            have c44 := (c37.keep K35 nin0 all0)
            have c45 := (c38.keep K35 nin0 all0)
            have c46 := (c39.keep K35 nin0 all0)
            have c47 := (c40.keep K35 nin0 all0)
            have c48 := (A29.keep K35)
            obtain ⟨s141, rfl, N42q, sz42, K42, f42_0⟩ := hQ42
            have N42 := Fr.app N35 N42q
            have ne_b5_s141 : b5 ≠ s141 := Nat.ne_of_lt (Nat.lt_of_lt_of_le c43.lt sz42)
            have ne_s107_s141 : s107 ≠ s141 := Nat.ne_of_lt (Nat.lt_of_lt_of_le c44.lt sz42)
            have ne_s112_s141 : s112 ≠ s141 := Nat.ne_of_lt (Nat.lt_of_lt_of_le c45.lt sz42)
            have ne_s117_s141 : s117 ≠ s141 := Nat.ne_of_lt (Nat.lt_of_lt_of_le c46.lt sz42)
            have ne_s122_s141 : s122 ≠ s141 := Nat.ne_of_lt (Nat.lt_of_lt_of_le c47.lt sz42)
            have ne_b29_s141 : b29 ≠ s141 := Nat.ne_of_lt (Nat.lt_of_lt_of_le c48.lt sz42)
            have ne_s136_s141 : s136 ≠ s141 := Nat.ne_of_lt (Nat.lt_of_lt_of_le f35_0.lt sz42)
            have ge_s141 : n0 ≤ s141 := Nat.le_trans Z35 sz42
            have Z42 : n0 ≤ T42.heap.size := Nat.le_trans Z35 K42.1
            refine Done.st (B := T42.setTop (mkF m 144 #[.val (.long x0), .second, .val (.long x1), .second, .val (.long x2), .second, .val (.long x3), .second, .val (.int x4), .val (.int x5), .val (.int ia1), .val (.int io1), .val (.int ie1), .val (.int iu1), .val (.int ia2), .val (.int io2), .val (.int ie2), .val (.int iu2), .val (.ref b5), .unset, .unset, .unset] [(.ref s141), (.ref s136), (.ref b29), (.ref b29)])) (fun _ k => st42.trans k) ?_
            refine Done.st (B := T42.setTop (mkF m 146 #[.val (.long x0), .second, .val (.long x1), .second, .val (.long x2), .second, .val (.long x3), .second, .val (.int x4), .val (.int x5), .val (.int ia1), .val (.int io1), .val (.int ie1), .val (.int iu1), .val (.int ia2), .val (.int io2), .val (.int ie2), .val (.int iu2), .val (.ref b5), .unset, .unset, .unset] [(.int ie2), (.ref s141), (.ref s136), (.ref b29), (.ref b29)])) (fun _ k => XS.iload X42.here hx rfl (hb hby at_144) rfl k) ?_
            have c49 := (own_sta_keep c41 K42 all0)
            obtain ⟨_, _, ⟨T50, L50, k50, n50⟩, -, X50, hs50, hg50, ⟨Lc50, hQ50, l50, y50, z50, cr50⟩, st50⟩ := callSS X42 hx (y := (⟨"com/example/nameward/nameward/model/ClaimsRecordEqualsPinLaw", "mk", "(I)Ljava/lang/String;"⟩ : MethodName)) hown (mvT hZ (hw _ (List.mem_of_getElem? (i := 10) rfl))) (mvT hZ (hw _ (List.mem_of_getElem? (i := 11) rfl))) (mvT hZ (hw _ (List.mem_of_getElem? (i := 2) rfl))) (mvT hZ (hw _ (List.mem_of_getElem? (i := 12) rfl))) (by decide) (backOfSH (W := 4) (rmM l Z a0 hw [] ie2 z T42.heap n0 Z42 c49 hz) hZ (hw _ (List.mem_of_getElem? (i := 12) rfl)) (hw _ (List.mem_of_getElem? (i := 2) rfl)) (by decide) (by decide) hEL C42) (g := (mkF m 146 #[.val (.long x0), .second, .val (.long x1), .second, .val (.long x2), .second, .val (.long x3), .second, .val (.int x4), .val (.int x5), .val (.int ia1), .val (.int io1), .val (.int ie1), .val (.int iu1), .val (.int ia2), .val (.int io2), .val (.int ie2), .val (.int iu2), .val (.ref b5), .unset, .unset, .unset] [(.int ie2), (.ref s141), (.ref s136), (.ref b29), (.ref b29)])) rfl (by rw [hml]; rfl) (argsL := [(.int ie2)]) (rest := [(.ref s141), (.ref s136), (.ref b29), (.ref b29)]) (lenOf pd_9 rfl) rfl (by show 2 * 0 + _ ≤ _; exact Nat.le_of_eq rfl) (hb hby at_146) (fun _ _ => ⟨rfl, rfl, (by decide : 26 + 4 ≤ _), (by decide : 68 + 10 ≤ _)⟩)
            dsimp only [Pt.U, Pt.locs, Pt.cells, Pt.slots] at X50 l50 y50 z50 st50 hQ50 hs50 hg50 cr50
            subst l50 y50 z50
            obtain ⟨X50, hS50, hZ, hown⟩ := rebS hS42 hk42 X50 hs50 hg50 hZ hown
            have R50 := R42.trans cr50
            have C50 := cr50.1
            have hk50 := Nat.le_refl T50.heap.size
            have c51 := (c43.keep K42)
            have c52 := (c44.keep K42 nin0 all0)
            have c53 := (c45.keep K42 nin0 all0)
            have c54 := (c46.keep K42 nin0 all0)
            have c55 := (c47.keep K42 nin0 all0)
            have c56 := (c48.keep K42)
            have c57 := (f35_0.keep K42 nin0 all0)
            obtain ⟨s146, rfl, N50q, sz50, K50, f50_0⟩ := hQ50
            have N50 := Fr.app N42 N50q
            have ne_b5_s146 : b5 ≠ s146 := Nat.ne_of_lt (Nat.lt_of_lt_of_le c51.lt sz50)
            have ne_s107_s146 : s107 ≠ s146 := Nat.ne_of_lt (Nat.lt_of_lt_of_le c52.lt sz50)
            have ne_s112_s146 : s112 ≠ s146 := Nat.ne_of_lt (Nat.lt_of_lt_of_le c53.lt sz50)
            have ne_s117_s146 : s117 ≠ s146 := Nat.ne_of_lt (Nat.lt_of_lt_of_le c54.lt sz50)
            have ne_s122_s146 : s122 ≠ s146 := Nat.ne_of_lt (Nat.lt_of_lt_of_le c55.lt sz50)
            have ne_b29_s146 : b29 ≠ s146 := Nat.ne_of_lt (Nat.lt_of_lt_of_le c56.lt sz50)
            have ne_s136_s146 : s136 ≠ s146 := Nat.ne_of_lt (Nat.lt_of_lt_of_le c57.lt sz50)
            have ne_s141_s146 : s141 ≠ s146 := Nat.ne_of_lt (Nat.lt_of_lt_of_le f42_0.lt sz50)
            have ge_s146 : n0 ≤ s146 := Nat.le_trans Z42 sz50
            have Z50 : n0 ≤ T50.heap.size := Nat.le_trans Z42 K50.1
            refine Done.st (B := T50.setTop (mkF m 149 #[.val (.long x0), .second, .val (.long x1), .second, .val (.long x2), .second, .val (.long x3), .second, .val (.int x4), .val (.int x5), .val (.int ia1), .val (.int io1), .val (.int ie1), .val (.int iu1), .val (.int ia2), .val (.int io2), .val (.int ie2), .val (.int iu2), .val (.ref b5), .unset, .unset, .unset] [(.ref s146), (.ref s141), (.ref s136), (.ref b29), (.ref b29)])) (fun _ k => st50.trans k) ?_
            refine Done.st (B := T50.setTop (mkF m 151 #[.val (.long x0), .second, .val (.long x1), .second, .val (.long x2), .second, .val (.long x3), .second, .val (.int x4), .val (.int x5), .val (.int ia1), .val (.int io1), .val (.int ie1), .val (.int iu1), .val (.int ia2), .val (.int io2), .val (.int ie2), .val (.int iu2), .val (.ref b5), .unset, .unset, .unset] [(.int iu2), (.ref s146), (.ref s141), (.ref s136), (.ref b29), (.ref b29)])) (fun _ k => XS.iload X50.here hx rfl (hb hby at_149) rfl k) ?_
            have c58 := (own_sta_keep c49 K50 all0)
            obtain ⟨_, _, ⟨T59, L59, k59, n59⟩, -, X59, hs59, hg59, ⟨Lc59, hQ59, l59, y59, z59, cr59⟩, st59⟩ := callSS X50 hx (y := (⟨"com/example/nameward/nameward/model/ClaimsRecordEqualsPinLaw", "mk", "(I)Ljava/lang/String;"⟩ : MethodName)) hown (mvT hZ (hw _ (List.mem_of_getElem? (i := 10) rfl))) (mvT hZ (hw _ (List.mem_of_getElem? (i := 11) rfl))) (mvT hZ (hw _ (List.mem_of_getElem? (i := 2) rfl))) (mvT hZ (hw _ (List.mem_of_getElem? (i := 12) rfl))) (by decide) (backOfSH (W := 5) (rmM l Z a0 hw [] iu2 z T50.heap n0 Z50 c58 hz) hZ (hw _ (List.mem_of_getElem? (i := 12) rfl)) (hw _ (List.mem_of_getElem? (i := 2) rfl)) (by decide) (by decide) hEL C50) (g := (mkF m 151 #[.val (.long x0), .second, .val (.long x1), .second, .val (.long x2), .second, .val (.long x3), .second, .val (.int x4), .val (.int x5), .val (.int ia1), .val (.int io1), .val (.int ie1), .val (.int iu1), .val (.int ia2), .val (.int io2), .val (.int ie2), .val (.int iu2), .val (.ref b5), .unset, .unset, .unset] [(.int iu2), (.ref s146), (.ref s141), (.ref s136), (.ref b29), (.ref b29)])) rfl (by rw [hml]; rfl) (argsL := [(.int iu2)]) (rest := [(.ref s146), (.ref s141), (.ref s136), (.ref b29), (.ref b29)]) (lenOf pd_9 rfl) rfl (by show 2 * 0 + _ ≤ _; exact Nat.le_of_eq rfl) (hb hby at_151) (fun _ _ => ⟨rfl, rfl, (by decide : 30 + 4 ≤ _), (by decide : 78 + 10 ≤ _)⟩)
            dsimp only [Pt.U, Pt.locs, Pt.cells, Pt.slots] at X59 l59 y59 z59 st59 hQ59 hs59 hg59 cr59
            subst l59 y59 z59
            obtain ⟨X59, hS59, hZ, hown⟩ := rebS hS50 hk50 X59 hs59 hg59 hZ hown
            have R59 := R50.trans cr59
            have C59 := cr59.1
            have hk59 := Nat.le_refl T59.heap.size
            have c60 := (c51.keep K50)
            have c61 := (c52.keep K50 nin0 all0)
            have c62 := (c53.keep K50 nin0 all0)
            have c63 := (c54.keep K50 nin0 all0)
            have c64 := (c55.keep K50 nin0 all0)
            have c65 := (c56.keep K50)
            have c66 := (c57.keep K50 nin0 all0)
            have c67 := (f42_0.keep K50 nin0 all0)
            obtain ⟨s151, rfl, N59q, sz59, K59, f59_0⟩ := hQ59
            have N59 := Fr.app N50 N59q
            have ne_b5_s151 : b5 ≠ s151 := Nat.ne_of_lt (Nat.lt_of_lt_of_le c60.lt sz59)
            have ne_s107_s151 : s107 ≠ s151 := Nat.ne_of_lt (Nat.lt_of_lt_of_le c61.lt sz59)
            have ne_s112_s151 : s112 ≠ s151 := Nat.ne_of_lt (Nat.lt_of_lt_of_le c62.lt sz59)
            have ne_s117_s151 : s117 ≠ s151 := Nat.ne_of_lt (Nat.lt_of_lt_of_le c63.lt sz59)
            have ne_s122_s151 : s122 ≠ s151 := Nat.ne_of_lt (Nat.lt_of_lt_of_le c64.lt sz59)
            have ne_b29_s151 : b29 ≠ s151 := Nat.ne_of_lt (Nat.lt_of_lt_of_le c65.lt sz59)
            have ne_s136_s151 : s136 ≠ s151 := Nat.ne_of_lt (Nat.lt_of_lt_of_le c66.lt sz59)
            have ne_s141_s151 : s141 ≠ s151 := Nat.ne_of_lt (Nat.lt_of_lt_of_le c67.lt sz59)
            have ne_s146_s151 : s146 ≠ s151 := Nat.ne_of_lt (Nat.lt_of_lt_of_le f50_0.lt sz59)
            have ge_s151 : n0 ≤ s151 := Nat.le_trans Z50 sz59
            have Z59 : n0 ≤ T59.heap.size := Nat.le_trans Z50 K59.1
            refine Done.st (B := T59.setTop (mkF m 154 #[.val (.long x0), .second, .val (.long x1), .second, .val (.long x2), .second, .val (.long x3), .second, .val (.int x4), .val (.int x5), .val (.int ia1), .val (.int io1), .val (.int ie1), .val (.int iu1), .val (.int ia2), .val (.int io2), .val (.int ie2), .val (.int iu2), .val (.ref b5), .unset, .unset, .unset] [(.ref s151), (.ref s146), (.ref s141), (.ref s136), (.ref b29), (.ref b29)])) (fun _ k => st59.trans k) ?_
            have c68 := (c66.keep K59 nin0 all0)
            have c69 := (c67.keep K59 nin0 all0)
            have c70 := (f50_0.keep K59 nin0 all0)
            have c71 := ((((F29_aLabel.keep K35 nin0).keep K42 nin0).keep K50 nin0).keep K59 nin0)
            have c72 := ((((F29_officialName.keep K35 nin0).keep K42 nin0).keep K50 nin0).keep K59 nin0)
            have c73 := ((((F29_englishName.keep K35 nin0).keep K42 nin0).keep K50 nin0).keep K59 nin0)
            have c74 := ((((F29_url.keep K35 nin0).keep K42 nin0).keep K50 nin0).keep K59 nin0)
            have c75 := (c65.keep K59)
            obtain ⟨_, _, ⟨T76, L76, k76, n76⟩, -, X76, ⟨Lc76, hQ76, l76, y76, z76⟩, st76⟩ := X59.specialBack hx (y := (⟨"com/example/nameward/nameward/model/ClaimsRecord", "<init>", "(Ljava/lang/String;Ljava/lang/String;Ljava/lang/String;Ljava/lang/String;)V"⟩ : MethodName)) rfl hown (mvT hZ (hw _ (List.mem_of_getElem? (i := 60) rfl))) (mvT hZ (hw _ (List.mem_of_getElem? (i := 61) rfl))) (mvT hZ (hw _ (List.mem_of_getElem? (i := 62) rfl))) (by decide) (backOf (W := 1) (rmI l Z a0 hw [] b29 s136 s141 s146 s151 T59.heap n0 Z59 c71 c72 c73 c74 c75 ge_b29 (Str.exa c68) (Str.exa c69) (Str.exa c70) (Str.exa f59_0)) hZ (hw _ (List.mem_of_getElem? (i := 62) rfl)) (hw _ (List.mem_of_getElem? (i := 9) rfl)) (by decide) (by decide)) (g := (mkF m 154 #[.val (.long x0), .second, .val (.long x1), .second, .val (.long x2), .second, .val (.long x3), .second, .val (.int x4), .val (.int x5), .val (.int ia1), .val (.int io1), .val (.int ie1), .val (.int iu1), .val (.int ia2), .val (.int io2), .val (.int ie2), .val (.int iu2), .val (.ref b5), .unset, .unset, .unset] [(.ref s151), (.ref s146), (.ref s141), (.ref s136), (.ref b29), (.ref b29)])) rfl (by rw [hml]; rfl) (Steps.refl _) (a := b29) (argsL := [(.ref s136), (.ref s141), (.ref s146), (.ref s151)]) (rest := [(.ref b29)]) (lenOf pd_10 rfl) rfl (by show 2 * 0 + _ ≤ _; exact Nat.le_of_eq rfl) (hb hby at_154) (fun _ _ => ⟨rfl, rfl, (by decide : 34 + 0 ≤ _), (by decide : 88 + 0 ≤ _)⟩)
            dsimp only [Pt.U, Pt.locs, Pt.cells, Pt.slots] at X76 l76 y76 z76 st76 hQ76
            subst l76 y76 z76
            obtain ⟨rfl, N76q, K76, f76_0, f76_1, f76_2, f76_3, f76_4⟩ := hQ76
            have N76 := Fr.app N59 N76q
            have na76_b29 := own_na_exa c75 (hw _ (List.mem_of_getElem? (i := 8) rfl))
            have C76 := CHv.keep K76 (sfS (Safe.exa (EL := own_EL) hZ.alike c75 (by decide) (by decide)) sf0) C59
            have R76 := R59.trans (CHr.keep K76 (sfS (Safe.exa (EL := own_EL) hZ.alike c75 (by decide) (by decide)) sf0) C59)
            have hk76 := Nat.le_trans hk59 K76.1
            have Z76 : n0 ≤ T76.heap.size := Nat.le_trans Z59 K76.1
            refine Done.st (B := T76.setTop (mkF m 157 #[.val (.long x0), .second, .val (.long x1), .second, .val (.long x2), .second, .val (.long x3), .second, .val (.int x4), .val (.int x5), .val (.int ia1), .val (.int io1), .val (.int ie1), .val (.int iu1), .val (.int ia2), .val (.int io2), .val (.int ie2), .val (.int iu2), .val (.ref b5), .unset, .unset, .unset] [(.ref b29)])) (fun _ k => st76.trans k) ?_
            refine Done.st (B := T76.setTop (mkF m 159 #[.val (.long x0), .second, .val (.long x1), .second, .val (.long x2), .second, .val (.long x3), .second, .val (.int x4), .val (.int x5), .val (.int ia1), .val (.int io1), .val (.int ie1), .val (.int iu1), .val (.int ia2), .val (.int io2), .val (.int ie2), .val (.int iu2), .val (.ref b5), .val (.ref b29), .unset, .unset] [])) (fun _ k => XS.astore X76.here hx rfl (hb hby at_157) rfl rfl (l' := #[.val (.long x0), .second, .val (.long x1), .second, .val (.long x2), .second, .val (.long x3), .second, .val (.int x4), .val (.int x5), .val (.int ia1), .val (.int io1), .val (.int ie1), .val (.int iu1), .val (.int ia2), .val (.int io2), .val (.int ie2), .val (.int iu2), .val (.ref b5), .val (.ref b29), .unset, .unset]) rfl k) ?_
            refine Done.st (B := T76.setTop (mkF m 161 #[.val (.long x0), .second, .val (.long x1), .second, .val (.long x2), .second, .val (.long x3), .second, .val (.int x4), .val (.int x5), .val (.int ia1), .val (.int io1), .val (.int ie1), .val (.int iu1), .val (.int ia2), .val (.int io2), .val (.int ie2), .val (.int iu2), .val (.ref b5), .val (.ref b29), .unset, .unset] [(.int x5)])) (fun _ k => XS.iload X76.here hx rfl (hb hby at_159) rfl k) ?_
            refine Done.st (B := T76.setTop (mkF m 163 #[.val (.long x0), .second, .val (.long x1), .second, .val (.long x2), .second, .val (.long x3), .second, .val (.int x4), .val (.int x5), .val (.int ia1), .val (.int io1), .val (.int ie1), .val (.int iu1), .val (.int ia2), .val (.int io2), .val (.int ie2), .val (.int iu2), .val (.ref b5), .val (.ref b29), .unset, .unset] [(.int (7 : Int32)), (.int x5)])) (fun _ k => XS.bipush X76.here hx rfl (hb hby at_161) k) ?_
            refine Done.st (B := T76.setTop (mkF m 164 #[.val (.long x0), .second, .val (.long x1), .second, .val (.long x2), .second, .val (.long x3), .second, .val (.int x4), .val (.int x5), .val (.int ia1), .val (.int io1), .val (.int ie1), .val (.int iu1), .val (.int ia2), .val (.int io2), .val (.int ie2), .val (.int iu2), .val (.ref b5), .val (.ref b29), .unset, .unset] [(.int (x5 &&& (7 : Int32)))])) (fun _ k => XS.iand X76.here hx rfl (hb hby at_163) rfl k) ?_
            refine Done.st (B := T76.setTop (mkF m 166 #[.val (.long x0), .second, .val (.long x1), .second, .val (.long x2), .second, .val (.long x3), .second, .val (.int x4), .val (.int x5), .val (.int ia1), .val (.int io1), .val (.int ie1), .val (.int iu1), .val (.int ia2), .val (.int io2), .val (.int ie2), .val (.int iu2), .val (.ref b5), .val (.ref b29), .val (.int (x5 &&& (7 : Int32))), .unset] [])) (fun _ k => XS.istore X76.here hx rfl (hb hby at_164) rfl (l' := #[.val (.long x0), .second, .val (.long x1), .second, .val (.long x2), .second, .val (.long x3), .second, .val (.int x4), .val (.int x5), .val (.int ia1), .val (.int io1), .val (.int ie1), .val (.int iu1), .val (.int ia2), .val (.int io2), .val (.int ie2), .val (.int iu2), .val (.ref b5), .val (.ref b29), .val (.int (x5 &&& (7 : Int32))), .unset]) rfl k) ?_
            refine Done.st (B := T76.setTop (mkF m 168 #[.val (.long x0), .second, .val (.long x1), .second, .val (.long x2), .second, .val (.long x3), .second, .val (.int x4), .val (.int x5), .val (.int ia1), .val (.int io1), .val (.int ie1), .val (.int iu1), .val (.int ia2), .val (.int io2), .val (.int ie2), .val (.int iu2), .val (.ref b5), .val (.ref b29), .val (.int (x5 &&& (7 : Int32))), .unset] [(.int (x5 &&& (7 : Int32)))])) (fun _ k => XS.iload X76.here hx rfl (hb hby at_166) rfl k) ?_
            by_cases hc168 : (x5 &&& (7 : Int32)) = (0 : Int32)
            · refine Done.st (B := T76.setTop (mkF m 171 #[.val (.long x0), .second, .val (.long x1), .second, .val (.long x2), .second, .val (.long x3), .second, .val (.int x4), .val (.int x5), .val (.int ia1), .val (.int io1), .val (.int ie1), .val (.int iu1), .val (.int ia2), .val (.int io2), .val (.int ie2), .val (.int iu2), .val (.ref b5), .val (.ref b29), .val (.int (x5 &&& (7 : Int32))), .unset] [])) (fun _ k => XS.ifNo X76.here hx rfl (hb hby at_168) rfl ((if0 _ _).trans (teq hc168).2) k) ?_
              refine Done.st (B := T76.setTop (mkF m 173 #[.val (.long x0), .second, .val (.long x1), .second, .val (.long x2), .second, .val (.long x3), .second, .val (.int x4), .val (.int x5), .val (.int ia1), .val (.int io1), .val (.int ie1), .val (.int iu1), .val (.int ia2), .val (.int io2), .val (.int ie2), .val (.int iu2), .val (.ref b5), .val (.ref b29), .val (.int (x5 &&& (7 : Int32))), .unset] [(.ref b5)])) (fun _ k => XS.aload X76.here hx rfl (hb hby at_171) rfl rfl k) ?_
              refine Done.st (B := T76.setTop (mkF m 174 #[.val (.long x0), .second, .val (.long x1), .second, .val (.long x2), .second, .val (.long x3), .second, .val (.int x4), .val (.int x5), .val (.int ia1), .val (.int io1), .val (.int ie1), .val (.int iu1), .val (.int ia2), .val (.int io2), .val (.int ie2), .val (.int iu2), .val (.ref b5), .val (.ref b29), .val (.int (x5 &&& (7 : Int32))), .unset] [.null, (.ref b5)])) (fun _ k => XS.aconstNull X76.here hx rfl (hb hby at_173) k) ?_
              have c78 := ((c60.keep K59).keep K76)
              obtain ⟨cq77, kq77, q77a, q77b, q77c⟩ := isOf hZ rfl c78
              obtain ⟨_, _, ⟨T77, L77, k77, n77⟩, -, X77, ⟨Lc77, hQ77, l77, y77, z77⟩, st77⟩ := X76.virtualBack hx (y := (⟨"com/example/nameward/nameward/model/ClaimsRecord", "equals", "(Ljava/lang/Object;)Z"⟩ : MethodName)) (z := (⟨"com/example/nameward/nameward/model/ClaimsRecord", "equals", "(Ljava/lang/Object;)Z"⟩ : MethodName)) hown (mvT hZ (hw _ (List.mem_of_getElem? (i := 77) rfl))) (mvT hZ (hw _ (List.mem_of_getElem? (i := 78) rfl))) (notFace_of_selects (args := #[]) (mvT hZ (hw _ (List.mem_of_getElem? (i := 80) rfl)))) (mvT hZ (hw _ (List.mem_of_getElem? (i := 80) rfl))) (mvT hZ (hw _ (List.mem_of_getElem? (i := 79) rfl))) (by decide) (backOf (W := 0) (rmEN l Z a0 hw [] b5 T76.heap n0 Z76) hZ (hw _ (List.mem_of_getElem? (i := 81) rfl)) (hw _ (List.mem_of_getElem? (i := 9) rfl)) (by decide) (by decide)) q77a q77c (g := (mkF m 174 #[.val (.long x0), .second, .val (.long x1), .second, .val (.long x2), .second, .val (.long x3), .second, .val (.int x4), .val (.int x5), .val (.int ia1), .val (.int io1), .val (.int ie1), .val (.int iu1), .val (.int ia2), .val (.int io2), .val (.int ie2), .val (.int iu2), .val (.ref b5), .val (.ref b29), .val (.int (x5 &&& (7 : Int32))), .unset] [.null, (.ref b5)])) rfl (by rw [hml]; rfl) (Steps.refl _) (argsL := [.null]) (rest := []) (lenOf pd_7 rfl) rfl (by show 2 * 0 + _ ≤ _; exact Nat.le_of_eq rfl) (hb hby at_174) (fun _ _ => ⟨rfl, rfl, (by decide : 34 + 0 ≤ _), (by decide : 88 + 0 ≤ _)⟩)
              dsimp only [Pt.U, Pt.locs, Pt.cells, Pt.slots] at X77 l77 y77 z77 st77 hQ77
              subst l77 y77 z77
              obtain ⟨rfl, N77q, e77⟩ := hQ77
              have N77 := Fr.app N76 N77q
              refine Done.st (B := T77.setTop (mkF m 177 #[.val (.long x0), .second, .val (.long x1), .second, .val (.long x2), .second, .val (.long x3), .second, .val (.int x4), .val (.int x5), .val (.int ia1), .val (.int io1), .val (.int ie1), .val (.int iu1), .val (.int ia2), .val (.int io2), .val (.int ie2), .val (.int iu2), .val (.ref b5), .val (.ref b29), .val (.int (x5 &&& (7 : Int32))), .unset] [(.int (0 : Int32))])) (fun _ k => st77.trans k) ?_
              refine Done.st (B := T77.setTop (mkF m 180 #[.val (.long x0), .second, .val (.long x1), .second, .val (.long x2), .second, .val (.long x3), .second, .val (.int x4), .val (.int x5), .val (.int ia1), .val (.int io1), .val (.int ie1), .val (.int iu1), .val (.int ia2), .val (.int io2), .val (.int ie2), .val (.int iu2), .val (.ref b5), .val (.ref b29), .val (.int (x5 &&& (7 : Int32))), .unset] [])) (fun _ k => XS.ifNo X77.here hx rfl (hb hby at_177) rfl ((if0 _ _).trans (teq (rfl : (0 : Int32) = (0 : Int32))).2) k) ?_
              refine Done.st (B := T77.setTop (mkF m 181 #[.val (.long x0), .second, .val (.long x1), .second, .val (.long x2), .second, .val (.long x3), .second, .val (.int x4), .val (.int x5), .val (.int ia1), .val (.int io1), .val (.int ie1), .val (.int iu1), .val (.int ia2), .val (.int io2), .val (.int ie2), .val (.int iu2), .val (.ref b5), .val (.ref b29), .val (.int (x5 &&& (7 : Int32))), .unset] [(.int (1 : Int32))])) (fun _ k => XS.iconst X77.here hx rfl (hb hby at_180) k) ?_
              refine Done.st (B := T77.setTop (mkF m 185 #[.val (.long x0), .second, .val (.long x1), .second, .val (.long x2), .second, .val (.long x3), .second, .val (.int x4), .val (.int x5), .val (.int ia1), .val (.int io1), .val (.int ie1), .val (.int iu1), .val (.int ia2), .val (.int io2), .val (.int ie2), .val (.int iu2), .val (.ref b5), .val (.ref b29), .val (.int (x5 &&& (7 : Int32))), .unset] [(.int (1 : Int32))])) (fun _ k => XS.goto X77.here hx rfl (pc0 := 181) (pc' := 185) rfl (hb hby at_181) (by decide) (by decide) k) ?_
              obtain ⟨fs, hr, hrun, hended, hWW⟩ := X77.leaveW hS59 (by rw [e77]; exact hk76) (v := some (.int (1 : Int32))) (hlocks := hlk) (fun h => by rw [Bd.returns] at h; cases h)
              refine Done.fin (retN X77 hx (t := .boolean) Bd.returns (by simp) (hb hby at_185) hr) hrun hended ⟨_, _, rfl, ?_, ?_, hWW.1, hWW.2.1, hWW.2.2.1, hWW.2.2.2.mono (by decide) (by decide)⟩
              rotate_left
              · show CHr Z own_EL s.vm s.heap T77.vm T77.heap
                rw [hh, e77]
                exact R76.trans (CHv.at X77 hZ hEL C76)
              show Qrm0 Z x0 x1 x2 x3 x4 x5 z h0 n0 _ T77.heap _
              rw [e77]
              exact ⟨rfl, N77⟩
            · refine Done.st (B := T76.setTop (mkF m 186 #[.val (.long x0), .second, .val (.long x1), .second, .val (.long x2), .second, .val (.long x3), .second, .val (.int x4), .val (.int x5), .val (.int ia1), .val (.int io1), .val (.int ie1), .val (.int iu1), .val (.int ia2), .val (.int io2), .val (.int ie2), .val (.int iu2), .val (.ref b5), .val (.ref b29), .val (.int (x5 &&& (7 : Int32))), .unset] [])) (fun _ k => XS.ifYes X76.here hx rfl (pc0 := 168) (pc' := 186) rfl (hb hby at_168) rfl ((if0 _ _).trans (feq hc168).2) (by decide) (by decide) k) ?_
              refine Done.st (B := T76.setTop (mkF m 188 #[.val (.long x0), .second, .val (.long x1), .second, .val (.long x2), .second, .val (.long x3), .second, .val (.int x4), .val (.int x5), .val (.int ia1), .val (.int io1), .val (.int ie1), .val (.int iu1), .val (.int ia2), .val (.int io2), .val (.int ie2), .val (.int iu2), .val (.ref b5), .val (.ref b29), .val (.int (x5 &&& (7 : Int32))), .unset] [(.int (x5 &&& (7 : Int32)))])) (fun _ k => XS.iload X76.here hx rfl (hb hby at_186) rfl k) ?_
              refine Done.st (B := T76.setTop (mkF m 189 #[.val (.long x0), .second, .val (.long x1), .second, .val (.long x2), .second, .val (.long x3), .second, .val (.int x4), .val (.int x5), .val (.int ia1), .val (.int io1), .val (.int ie1), .val (.int iu1), .val (.int ia2), .val (.int io2), .val (.int ie2), .val (.int iu2), .val (.ref b5), .val (.ref b29), .val (.int (x5 &&& (7 : Int32))), .unset] [(.int (1 : Int32)), (.int (x5 &&& (7 : Int32)))])) (fun _ k => XS.iconst X76.here hx rfl (hb hby at_188) k) ?_
              by_cases hc189 : (x5 &&& (7 : Int32)) = (1 : Int32)
              · refine Done.st (B := T76.setTop (mkF m 192 #[.val (.long x0), .second, .val (.long x1), .second, .val (.long x2), .second, .val (.long x3), .second, .val (.int x4), .val (.int x5), .val (.int ia1), .val (.int io1), .val (.int ie1), .val (.int iu1), .val (.int ia2), .val (.int io2), .val (.int ie2), .val (.int iu2), .val (.ref b5), .val (.ref b29), .val (.int (x5 &&& (7 : Int32))), .unset] [])) (fun _ k => XS.icmpNo X76.here hx rfl (hb hby at_189) rfl (teq hc189).2 k) ?_
                refine Done.st (B := T76.setTop (mkF m 194 #[.val (.long x0), .second, .val (.long x1), .second, .val (.long x2), .second, .val (.long x3), .second, .val (.int x4), .val (.int x5), .val (.int ia1), .val (.int io1), .val (.int ie1), .val (.int iu1), .val (.int ia2), .val (.int io2), .val (.int ie2), .val (.int iu2), .val (.ref b5), .val (.ref b29), .val (.int (x5 &&& (7 : Int32))), .unset] [(.ref b5)])) (fun _ k => XS.aload X76.here hx rfl (hb hby at_192) rfl rfl k) ?_
                refine Done.st (B := T76.setTop (mkF m 196 #[.val (.long x0), .second, .val (.long x1), .second, .val (.long x2), .second, .val (.long x3), .second, .val (.int x4), .val (.int x5), .val (.int ia1), .val (.int io1), .val (.int ie1), .val (.int iu1), .val (.int ia2), .val (.int io2), .val (.int ie2), .val (.int iu2), .val (.ref b5), .val (.ref b29), .val (.int (x5 &&& (7 : Int32))), .unset] [(.int ia1), (.ref b5)])) (fun _ k => XS.iload X76.here hx rfl (hb hby at_194) rfl k) ?_
                have c80 := (own_sta_keep (own_sta_keep c58 K59 all0) K76 (allS (own_ns_exa c75) all0))
                obtain ⟨_, _, ⟨T81, L81, k81, n81⟩, -, X81, hs81, hg81, ⟨Lc81, hQ81, l81, y81, z81, cr81⟩, st81⟩ := callSS X76 hx (y := (⟨"com/example/nameward/nameward/model/ClaimsRecordEqualsPinLaw", "mk", "(I)Ljava/lang/String;"⟩ : MethodName)) hown (mvT hZ (hw _ (List.mem_of_getElem? (i := 10) rfl))) (mvT hZ (hw _ (List.mem_of_getElem? (i := 11) rfl))) (mvT hZ (hw _ (List.mem_of_getElem? (i := 2) rfl))) (mvT hZ (hw _ (List.mem_of_getElem? (i := 12) rfl))) (by decide) (backOfSH (W := 1) (rmM l Z a0 hw [] ia1 z T76.heap n0 Z76 c80 hz) hZ (hw _ (List.mem_of_getElem? (i := 12) rfl)) (hw _ (List.mem_of_getElem? (i := 2) rfl)) (by decide) (by decide) hEL C76) (g := (mkF m 196 #[.val (.long x0), .second, .val (.long x1), .second, .val (.long x2), .second, .val (.long x3), .second, .val (.int x4), .val (.int x5), .val (.int ia1), .val (.int io1), .val (.int ie1), .val (.int iu1), .val (.int ia2), .val (.int io2), .val (.int ie2), .val (.int iu2), .val (.ref b5), .val (.ref b29), .val (.int (x5 &&& (7 : Int32))), .unset] [(.int ia1), (.ref b5)])) rfl (by rw [hml]; rfl) (argsL := [(.int ia1)]) (rest := [(.ref b5)]) (lenOf pd_9 rfl) rfl (by show 2 * 0 + _ ≤ _; exact Nat.le_of_eq rfl) (hb hby at_196) (fun _ _ => ⟨rfl, rfl, (by decide : 34 + 4 ≤ _), (by decide : 88 + 10 ≤ _)⟩)
                dsimp only [Pt.U, Pt.locs, Pt.cells, Pt.slots] at X81 l81 y81 z81 st81 hQ81 hs81 hg81 cr81
                subst l81 y81 z81
                obtain ⟨X81, hS81, hZ, hown⟩ := rebS hS59 hk76 X81 hs81 hg81 hZ hown
                have R81 := R76.trans cr81
                have C81 := cr81.1
                have hk81 := Nat.le_refl T81.heap.size
                have c82 := ((c60.keep K59).keep K76)
                have c83 := ((c61.keep K59 nin0 all0).keep K76 (ninS ne_s107_b29 nin0) (allS na76_b29 all0))
                have c84 := ((c62.keep K59 nin0 all0).keep K76 (ninS ne_s112_b29 nin0) (allS na76_b29 all0))
                have c85 := ((c63.keep K59 nin0 all0).keep K76 (ninS ne_s117_b29 nin0) (allS na76_b29 all0))
                have c86 := ((c64.keep K59 nin0 all0).keep K76 (ninS ne_s122_b29 nin0) (allS na76_b29 all0))
                have c87 := (c68.keep K76 (ninS (Ne.symm ne_b29_s136) nin0) (allS na76_b29 all0))
                have c88 := (c69.keep K76 (ninS (Ne.symm ne_b29_s141) nin0) (allS na76_b29 all0))
                have c89 := (c70.keep K76 (ninS (Ne.symm ne_b29_s146) nin0) (allS na76_b29 all0))
                have c90 := (f59_0.keep K76 (ninS (Ne.symm ne_b29_s151) nin0) (allS na76_b29 all0))
                obtain ⟨s196, rfl, N81q, sz81, K81, f81_0⟩ := hQ81
                have N81 := Fr.app N76 N81q
                have ne_b5_s196 : b5 ≠ s196 := Nat.ne_of_lt (Nat.lt_of_lt_of_le c82.lt sz81)
                have ne_s107_s196 : s107 ≠ s196 := Nat.ne_of_lt (Nat.lt_of_lt_of_le c83.lt sz81)
                have ne_s112_s196 : s112 ≠ s196 := Nat.ne_of_lt (Nat.lt_of_lt_of_le c84.lt sz81)
                have ne_s117_s196 : s117 ≠ s196 := Nat.ne_of_lt (Nat.lt_of_lt_of_le c85.lt sz81)
                have ne_s122_s196 : s122 ≠ s196 := Nat.ne_of_lt (Nat.lt_of_lt_of_le c86.lt sz81)
                have ne_b29_s196 : b29 ≠ s196 := Nat.ne_of_lt (Nat.lt_of_lt_of_le f76_0.lt sz81)
                have ne_s136_s196 : s136 ≠ s196 := Nat.ne_of_lt (Nat.lt_of_lt_of_le c87.lt sz81)
                have ne_s141_s196 : s141 ≠ s196 := Nat.ne_of_lt (Nat.lt_of_lt_of_le c88.lt sz81)
                have ne_s146_s196 : s146 ≠ s196 := Nat.ne_of_lt (Nat.lt_of_lt_of_le c89.lt sz81)
                have ne_s151_s196 : s151 ≠ s196 := Nat.ne_of_lt (Nat.lt_of_lt_of_le c90.lt sz81)
                have ge_s196 : n0 ≤ s196 := Nat.le_trans Z76 sz81
                have Z81 : n0 ≤ T81.heap.size := Nat.le_trans Z76 K81.1
                refine Done.st (B := T81.setTop (mkF m 199 #[.val (.long x0), .second, .val (.long x1), .second, .val (.long x2), .second, .val (.long x3), .second, .val (.int x4), .val (.int x5), .val (.int ia1), .val (.int io1), .val (.int ie1), .val (.int iu1), .val (.int ia2), .val (.int io2), .val (.int ie2), .val (.int iu2), .val (.ref b5), .val (.ref b29), .val (.int (x5 &&& (7 : Int32))), .unset] [(.ref s196), (.ref b5)])) (fun _ k => st81.trans k) ?_
                have c92 := (c82.keep K81)
                obtain ⟨cq91, kq91, q91a, q91b, q91c⟩ := isOf hZ rfl c92
                obtain ⟨_, _, ⟨T91, L91, k91, n91⟩, -, X91, ⟨Lc91, hQ91, l91, y91, z91⟩, st91⟩ := X81.virtualBack hx (y := (⟨"com/example/nameward/nameward/model/ClaimsRecord", "equals", "(Ljava/lang/Object;)Z"⟩ : MethodName)) (z := (⟨"com/example/nameward/nameward/model/ClaimsRecord", "equals", "(Ljava/lang/Object;)Z"⟩ : MethodName)) hown (mvT hZ (hw _ (List.mem_of_getElem? (i := 77) rfl))) (mvT hZ (hw _ (List.mem_of_getElem? (i := 78) rfl))) (notFace_of_selects (args := #[]) (mvT hZ (hw _ (List.mem_of_getElem? (i := 80) rfl)))) (mvT hZ (hw _ (List.mem_of_getElem? (i := 80) rfl))) (mvT hZ (hw _ (List.mem_of_getElem? (i := 79) rfl))) (by decide) (backOf (W := 0) (rmES l Z a0 hw [] b5 s196 T81.heap n0 Z81 (Str.exa f81_0)) hZ (hw _ (List.mem_of_getElem? (i := 81) rfl)) (hw _ (List.mem_of_getElem? (i := 9) rfl)) (by decide) (by decide)) q91a q91c (g := (mkF m 199 #[.val (.long x0), .second, .val (.long x1), .second, .val (.long x2), .second, .val (.long x3), .second, .val (.int x4), .val (.int x5), .val (.int ia1), .val (.int io1), .val (.int ie1), .val (.int iu1), .val (.int ia2), .val (.int io2), .val (.int ie2), .val (.int iu2), .val (.ref b5), .val (.ref b29), .val (.int (x5 &&& (7 : Int32))), .unset] [(.ref s196), (.ref b5)])) rfl (by rw [hml]; rfl) (Steps.refl _) (argsL := [(.ref s196)]) (rest := []) (lenOf pd_7 rfl) rfl (by show 2 * 0 + _ ≤ _; exact Nat.le_of_eq rfl) (hb hby at_199) (fun _ _ => ⟨rfl, rfl, (by decide : 38 + 0 ≤ _), (by decide : 98 + 0 ≤ _)⟩)
                dsimp only [Pt.U, Pt.locs, Pt.cells, Pt.slots] at X91 l91 y91 z91 st91 hQ91
                subst l91 y91 z91
                obtain ⟨rfl, N91q, e91⟩ := hQ91
                have N91 := Fr.app N81 N91q
                refine Done.st (B := T91.setTop (mkF m 202 #[.val (.long x0), .second, .val (.long x1), .second, .val (.long x2), .second, .val (.long x3), .second, .val (.int x4), .val (.int x5), .val (.int ia1), .val (.int io1), .val (.int ie1), .val (.int iu1), .val (.int ia2), .val (.int io2), .val (.int ie2), .val (.int iu2), .val (.ref b5), .val (.ref b29), .val (.int (x5 &&& (7 : Int32))), .unset] [(.int (0 : Int32))])) (fun _ k => st91.trans k) ?_
                refine Done.st (B := T91.setTop (mkF m 205 #[.val (.long x0), .second, .val (.long x1), .second, .val (.long x2), .second, .val (.long x3), .second, .val (.int x4), .val (.int x5), .val (.int ia1), .val (.int io1), .val (.int ie1), .val (.int iu1), .val (.int ia2), .val (.int io2), .val (.int ie2), .val (.int iu2), .val (.ref b5), .val (.ref b29), .val (.int (x5 &&& (7 : Int32))), .unset] [])) (fun _ k => XS.ifNo X91.here hx rfl (hb hby at_202) rfl ((if0 _ _).trans (teq (rfl : (0 : Int32) = (0 : Int32))).2) k) ?_
                refine Done.st (B := T91.setTop (mkF m 206 #[.val (.long x0), .second, .val (.long x1), .second, .val (.long x2), .second, .val (.long x3), .second, .val (.int x4), .val (.int x5), .val (.int ia1), .val (.int io1), .val (.int ie1), .val (.int iu1), .val (.int ia2), .val (.int io2), .val (.int ie2), .val (.int iu2), .val (.ref b5), .val (.ref b29), .val (.int (x5 &&& (7 : Int32))), .unset] [(.int (1 : Int32))])) (fun _ k => XS.iconst X91.here hx rfl (hb hby at_205) k) ?_
                refine Done.st (B := T91.setTop (mkF m 210 #[.val (.long x0), .second, .val (.long x1), .second, .val (.long x2), .second, .val (.long x3), .second, .val (.int x4), .val (.int x5), .val (.int ia1), .val (.int io1), .val (.int ie1), .val (.int iu1), .val (.int ia2), .val (.int io2), .val (.int ie2), .val (.int iu2), .val (.ref b5), .val (.ref b29), .val (.int (x5 &&& (7 : Int32))), .unset] [(.int (1 : Int32))])) (fun _ k => XS.goto X91.here hx rfl (pc0 := 206) (pc' := 210) rfl (hb hby at_206) (by decide) (by decide) k) ?_
                obtain ⟨fs, hr, hrun, hended, hWW⟩ := X91.leaveW hS81 (by rw [e91]; exact hk81) (v := some (.int (1 : Int32))) (hlocks := hlk) (fun h => by rw [Bd.returns] at h; cases h)
                refine Done.fin (retN X91 hx (t := .boolean) Bd.returns (by simp) (hb hby at_210) hr) hrun hended ⟨_, _, rfl, ?_, ?_, hWW.1, hWW.2.1, hWW.2.2.1, hWW.2.2.2.mono (by decide) (by decide)⟩
                rotate_left
                · show CHr Z own_EL s.vm s.heap T91.vm T91.heap
                  rw [hh, e91]
                  exact R81.trans (CHv.at X91 hZ hEL C81)
                show Qrm0 Z x0 x1 x2 x3 x4 x5 z h0 n0 _ T91.heap _
                rw [e91]
                exact ⟨rfl, N91⟩
              · refine Done.st (B := T76.setTop (mkF m 211 #[.val (.long x0), .second, .val (.long x1), .second, .val (.long x2), .second, .val (.long x3), .second, .val (.int x4), .val (.int x5), .val (.int ia1), .val (.int io1), .val (.int ie1), .val (.int iu1), .val (.int ia2), .val (.int io2), .val (.int ie2), .val (.int iu2), .val (.ref b5), .val (.ref b29), .val (.int (x5 &&& (7 : Int32))), .unset] [])) (fun _ k => XS.icmpYes X76.here hx rfl (pc0 := 189) (pc' := 211) rfl (hb hby at_189) rfl (feq hc189).2 (by decide) (by decide) k) ?_
                refine Done.st (B := T76.setTop (mkF m 213 #[.val (.long x0), .second, .val (.long x1), .second, .val (.long x2), .second, .val (.long x3), .second, .val (.int x4), .val (.int x5), .val (.int ia1), .val (.int io1), .val (.int ie1), .val (.int iu1), .val (.int ia2), .val (.int io2), .val (.int ie2), .val (.int iu2), .val (.ref b5), .val (.ref b29), .val (.int (x5 &&& (7 : Int32))), .unset] [(.int (x5 &&& (7 : Int32)))])) (fun _ k => XS.iload X76.here hx rfl (hb hby at_211) rfl k) ?_
                refine Done.st (B := T76.setTop (mkF m 214 #[.val (.long x0), .second, .val (.long x1), .second, .val (.long x2), .second, .val (.long x3), .second, .val (.int x4), .val (.int x5), .val (.int ia1), .val (.int io1), .val (.int ie1), .val (.int iu1), .val (.int ia2), .val (.int io2), .val (.int ie2), .val (.int iu2), .val (.ref b5), .val (.ref b29), .val (.int (x5 &&& (7 : Int32))), .unset] [(.int (2 : Int32)), (.int (x5 &&& (7 : Int32)))])) (fun _ k => XS.iconst X76.here hx rfl (hb hby at_213) k) ?_
                by_cases hc214 : (x5 &&& (7 : Int32)) = (2 : Int32)
                · refine Done.st (B := T76.setTop (mkF m 217 #[.val (.long x0), .second, .val (.long x1), .second, .val (.long x2), .second, .val (.long x3), .second, .val (.int x4), .val (.int x5), .val (.int ia1), .val (.int io1), .val (.int ie1), .val (.int iu1), .val (.int ia2), .val (.int io2), .val (.int ie2), .val (.int iu2), .val (.ref b5), .val (.ref b29), .val (.int (x5 &&& (7 : Int32))), .unset] [])) (fun _ k => XS.icmpNo X76.here hx rfl (hb hby at_214) rfl (teq hc214).2 k) ?_
                  refine Done.st (B := T76.setTop (mkF m 219 #[.val (.long x0), .second, .val (.long x1), .second, .val (.long x2), .second, .val (.long x3), .second, .val (.int x4), .val (.int x5), .val (.int ia1), .val (.int io1), .val (.int ie1), .val (.int iu1), .val (.int ia2), .val (.int io2), .val (.int ie2), .val (.int iu2), .val (.ref b5), .val (.ref b29), .val (.int (x5 &&& (7 : Int32))), .unset] [(.ref b5)])) (fun _ k => XS.aload X76.here hx rfl (hb hby at_217) rfl rfl k) ?_
                  refine Done.st (B := T76.setTop (mkF m 221 #[.val (.long x0), .second, .val (.long x1), .second, .val (.long x2), .second, .val (.long x3), .second, .val (.int x4), .val (.int x5), .val (.int ia1), .val (.int io1), .val (.int ie1), .val (.int iu1), .val (.int ia2), .val (.int io2), .val (.int ie2), .val (.int iu2), .val (.ref b5), .val (.ref b29), .val (.int (x5 &&& (7 : Int32))), .unset] [(.ref b5), (.ref b5)])) (fun _ k => XS.aload X76.here hx rfl (hb hby at_219) rfl rfl k) ?_
                  have c94 := ((((((Fld.ext E29 f28_1).keep K35 nin0).keep K42 nin0).keep K50 nin0).keep K59 nin0).keep K76 (ninS ne_b5_b29 nin0))
                  have c95 := ((((((Fld.ext E29 f28_2).keep K35 nin0).keep K42 nin0).keep K50 nin0).keep K59 nin0).keep K76 (ninS ne_b5_b29 nin0))
                  have c96 := ((((((Fld.ext E29 f28_3).keep K35 nin0).keep K42 nin0).keep K50 nin0).keep K59 nin0).keep K76 (ninS ne_b5_b29 nin0))
                  have c97 := ((((((Fld.ext E29 f28_4).keep K35 nin0).keep K42 nin0).keep K50 nin0).keep K59 nin0).keep K76 (ninS ne_b5_b29 nin0))
                  have c98 := ((c60.keep K59).keep K76)
                  have c99 := ((c61.keep K59 nin0 all0).keep K76 (ninS ne_s107_b29 nin0) (allS na76_b29 all0))
                  have c100 := ((c62.keep K59 nin0 all0).keep K76 (ninS ne_s112_b29 nin0) (allS na76_b29 all0))
                  have c101 := ((c63.keep K59 nin0 all0).keep K76 (ninS ne_s117_b29 nin0) (allS na76_b29 all0))
                  have c102 := ((c64.keep K59 nin0 all0).keep K76 (ninS ne_s122_b29 nin0) (allS na76_b29 all0))
                  have c103 := (own_sta_keep (own_sta_keep c58 K59 all0) K76 (allS (own_ns_exa c75) all0))
                  obtain ⟨cq104, kq104, q104a, q104b, q104c⟩ := isOf hZ rfl c98
                  obtain ⟨_, _, ⟨T104, L104, k104, n104⟩, -, X104, ⟨Lc104, hQ104, l104, y104, z104⟩, st104⟩ := X76.virtualBack hx (y := (⟨"com/example/nameward/nameward/model/ClaimsRecord", "equals", "(Ljava/lang/Object;)Z"⟩ : MethodName)) (z := (⟨"com/example/nameward/nameward/model/ClaimsRecord", "equals", "(Ljava/lang/Object;)Z"⟩ : MethodName)) hown (mvT hZ (hw _ (List.mem_of_getElem? (i := 77) rfl))) (mvT hZ (hw _ (List.mem_of_getElem? (i := 78) rfl))) (notFace_of_selects (args := #[]) (mvT hZ (hw _ (List.mem_of_getElem? (i := 80) rfl)))) (mvT hZ (hw _ (List.mem_of_getElem? (i := 80) rfl))) (mvT hZ (hw _ (List.mem_of_getElem? (i := 79) rfl))) (by decide) (backOf (W := 0) (rmEE l Z a0 hw [] b5 b5 s107 s112 s117 s122 s107 s112 s117 s122 (own_mc ia1) (own_mc io1) (own_mc ie1) (own_mc iu1) (own_mc ia1) (own_mc io1) (own_mc ie1) (own_mc iu1) z T76.heap n0 Z76 c94 c95 c96 c97 c94 c95 c96 c97 c98 c99 c100 c101 c102 c99 c100 c101 c102 (own_mcok _) (own_mcok _) (own_mcok _) (own_mcok _) (own_mcok _) (own_mcok _) (own_mcok _) (own_mcok _) (own_mclen _) (own_mclen _) (own_mclen _) (own_mclen _) (own_mclen _) (own_mclen _) (own_mclen _) (own_mclen _) c103 hz) hZ (hw _ (List.mem_of_getElem? (i := 81) rfl)) (hw _ (List.mem_of_getElem? (i := 9) rfl)) (by decide) (by decide)) q104a q104c (g := (mkF m 221 #[.val (.long x0), .second, .val (.long x1), .second, .val (.long x2), .second, .val (.long x3), .second, .val (.int x4), .val (.int x5), .val (.int ia1), .val (.int io1), .val (.int ie1), .val (.int iu1), .val (.int ia2), .val (.int io2), .val (.int ie2), .val (.int iu2), .val (.ref b5), .val (.ref b29), .val (.int (x5 &&& (7 : Int32))), .unset] [(.ref b5), (.ref b5)])) rfl (by rw [hml]; rfl) (Steps.refl _) (argsL := [(.ref b5)]) (rest := []) (lenOf pd_7 rfl) rfl (by show 2 * 0 + _ ≤ _; exact Nat.le_of_eq rfl) (hb hby at_221) (fun _ _ => ⟨rfl, rfl, (by decide : 34 + 0 ≤ _), (by decide : 88 + 0 ≤ _)⟩)
                  dsimp only [Pt.U, Pt.locs, Pt.cells, Pt.slots] at X104 l104 y104 z104 st104 hQ104
                  subst l104 y104 z104
                  obtain ⟨rfl, N104q, e104⟩ := hQ104
                  have N104 := Fr.app N76 N104q
                  refine Done.st (B := T104.setTop (mkF m 224 #[.val (.long x0), .second, .val (.long x1), .second, .val (.long x2), .second, .val (.long x3), .second, .val (.int x4), .val (.int x5), .val (.int ia1), .val (.int io1), .val (.int ie1), .val (.int iu1), .val (.int ia2), .val (.int io2), .val (.int ie2), .val (.int iu2), .val (.ref b5), .val (.ref b29), .val (.int (x5 &&& (7 : Int32))), .unset] [(.int (own_and4 (own_seq (own_mc ia1) (own_mc ia1)) (own_seq (own_mc io1) (own_mc io1)) (own_seq (own_mc ie1) (own_mc ie1)) (own_seq (own_mc iu1) (own_mc iu1))))])) (fun _ k => st104.trans k) ?_
                  obtain ⟨fs, hr, hrun, hended, hWW⟩ := X104.leaveW hS59 (by rw [e104]; exact hk76) (v := some (.int (nar .boolean (own_and4 (own_seq (own_mc ia1) (own_mc ia1)) (own_seq (own_mc io1) (own_mc io1)) (own_seq (own_mc ie1) (own_mc ie1)) (own_seq (own_mc iu1) (own_mc iu1)))))) (hlocks := hlk) (fun h => by rw [Bd.returns] at h; cases h)
                  refine Done.fin (retN X104 hx (t := .boolean) Bd.returns (by simp) (hb hby at_224) hr) hrun hended ⟨_, _, rfl, ?_, ?_, hWW.1, hWW.2.1, hWW.2.2.1, hWW.2.2.2.mono (by decide) (by decide)⟩
                  rotate_left
                  · show CHr Z own_EL s.vm s.heap T104.vm T104.heap
                    rw [hh, e104]
                    exact R76.trans (CHv.at X104 hZ hEL C76)
                  show Qrm0 Z x0 x1 x2 x3 x4 x5 z h0 n0 _ T104.heap _
                  rw [e104]
                  exact ⟨by rw [own_refl]; rfl, N104⟩
                · refine Done.st (B := T76.setTop (mkF m 225 #[.val (.long x0), .second, .val (.long x1), .second, .val (.long x2), .second, .val (.long x3), .second, .val (.int x4), .val (.int x5), .val (.int ia1), .val (.int io1), .val (.int ie1), .val (.int iu1), .val (.int ia2), .val (.int io2), .val (.int ie2), .val (.int iu2), .val (.ref b5), .val (.ref b29), .val (.int (x5 &&& (7 : Int32))), .unset] [])) (fun _ k => XS.icmpYes X76.here hx rfl (pc0 := 214) (pc' := 225) rfl (hb hby at_214) rfl (feq hc214).2 (by decide) (by decide) k) ?_
                  have j284 : ∀ (Tj284 : State) (hj284 : Heap) (Lj284 : List Loc) (Xj284 : Stand p l e room_1 (s.setVm T59.vm) m #[(.long x0), (.long x1), (.long x2), (.long x3), (.int x4), (.int x5)] below meth c Tj284 Lj284 34 88) (ej284 : Tj284.heap = hj284) (Nj284 : Fr n0 Lj284) (Zj284 : n0 ≤ hj284.size) (Cj284 : CHv Z own_EL T59.vm hj284) (Rj284 : CHr Z own_EL s.vm h0 T59.vm hj284) (hkj284 : T59.heap.size ≤ hj284.size) (fj284_0 : Sta Z hj284 "java/lang/String" "COMPACT_STRINGS" "Z" (.int z)) (fj284_1 : Exa Z hj284 b5 "com/example/nameward/nameward/model/ClaimsRecord") (fj284_2 : Str Z hj284 s107 (own_mc ia1)) (fj284_3 : Str Z hj284 s112 (own_mc io1)) (fj284_4 : Str Z hj284 s117 (own_mc ie1)) (fj284_5 : Str Z hj284 s122 (own_mc iu1)) (fj284_6 : Fld Z hj284 b5 "com/example/nameward/nameward/model/ClaimsRecord" "aLabel" "Ljava/lang/String;" (.ref s107)) (fj284_7 : Fld Z hj284 b5 "com/example/nameward/nameward/model/ClaimsRecord" "officialName" "Ljava/lang/String;" (.ref s112)) (fj284_8 : Fld Z hj284 b5 "com/example/nameward/nameward/model/ClaimsRecord" "englishName" "Ljava/lang/String;" (.ref s117)) (fj284_9 : Fld Z hj284 b5 "com/example/nameward/nameward/model/ClaimsRecord" "url" "Ljava/lang/String;" (.ref s122)) (fj284_10 : Exa Z hj284 b29 "com/example/nameward/nameward/model/ClaimsRecord") (fj284_11 : Str Z hj284 s136 (own_mc ia2)) (fj284_12 : Str Z hj284 s141 (own_mc io2)) (fj284_13 : Str Z hj284 s146 (own_mc ie2)) (fj284_14 : Str Z hj284 s151 (own_mc iu2)) (fj284_15 : Fld Z hj284 b29 "com/example/nameward/nameward/model/ClaimsRecord" "aLabel" "Ljava/lang/String;" (.ref s136)) (fj284_16 : Fld Z hj284 b29 "com/example/nameward/nameward/model/ClaimsRecord" "officialName" "Ljava/lang/String;" (.ref s141)) (fj284_17 : Fld Z hj284 b29 "com/example/nameward/nameward/model/ClaimsRecord" "englishName" "Ljava/lang/String;" (.ref s146)) (fj284_18 : Fld Z hj284 b29 "com/example/nameward/nameward/model/ClaimsRecord" "url" "Ljava/lang/String;" (.ref s151)) (want : Int32) (hwant : want = own_exp ia1 ia2 io1 io2 ie1 ie2 iu1 iu2), Done p e below (Prm0 s Z x0 x1 x2 x3 x4 x5 z h0 n0) (Tj284.setTop (mkF m 284 #[.val (.long x0), .second, .val (.long x1), .second, .val (.long x2), .second, .val (.long x3), .second, .val (.int x4), .val (.int x5), .val (.int ia1), .val (.int io1), .val (.int ie1), .val (.int iu1), .val (.int ia2), .val (.int io2), .val (.int ie2), .val (.int iu2), .val (.ref b5), .val (.ref b29), .val (.int (x5 &&& (7 : Int32))), .val (.int want)] [])) := by
                    intro  Tj284 hj284 Lj284 Xj284 ej284 Nj284 Zj284 Cj284 Rj284 hkj284 fj284_0 fj284_1 fj284_2 fj284_3 fj284_4 fj284_5 fj284_6 fj284_7 fj284_8 fj284_9 fj284_10 fj284_11 fj284_12 fj284_13 fj284_14 fj284_15 fj284_16 fj284_17 fj284_18 want hwant
                    refine Done.st (B := Tj284.setTop (mkF m 286 #[.val (.long x0), .second, .val (.long x1), .second, .val (.long x2), .second, .val (.long x3), .second, .val (.int x4), .val (.int x5), .val (.int ia1), .val (.int io1), .val (.int ie1), .val (.int iu1), .val (.int ia2), .val (.int io2), .val (.int ie2), .val (.int iu2), .val (.ref b5), .val (.ref b29), .val (.int (x5 &&& (7 : Int32))), .val (.int want)] [(.ref b5)])) (fun _ k => XS.aload Xj284.here hx rfl (hb hby at_284) rfl rfl k) ?_
                    refine Done.st (B := Tj284.setTop (mkF m 288 #[.val (.long x0), .second, .val (.long x1), .second, .val (.long x2), .second, .val (.long x3), .second, .val (.int x4), .val (.int x5), .val (.int ia1), .val (.int io1), .val (.int ie1), .val (.int iu1), .val (.int ia2), .val (.int io2), .val (.int ie2), .val (.int iu2), .val (.ref b5), .val (.ref b29), .val (.int (x5 &&& (7 : Int32))), .val (.int want)] [(.ref b29), (.ref b5)])) (fun _ k => XS.aload Xj284.here hx rfl (hb hby at_286) rfl rfl k) ?_
                    obtain ⟨cq106, kq106, q106a, q106b, q106c⟩ := isOf hZ ej284 fj284_1
                    obtain ⟨_, _, ⟨T106, L106, k106, n106⟩, -, X106, ⟨Lc106, hQ106, l106, y106, z106⟩, st106⟩ := Xj284.virtualBack hx (y := (⟨"com/example/nameward/nameward/model/ClaimsRecord", "equals", "(Ljava/lang/Object;)Z"⟩ : MethodName)) (z := (⟨"com/example/nameward/nameward/model/ClaimsRecord", "equals", "(Ljava/lang/Object;)Z"⟩ : MethodName)) hown (mvT hZ (hw _ (List.mem_of_getElem? (i := 77) rfl))) (mvT hZ (hw _ (List.mem_of_getElem? (i := 78) rfl))) (notFace_of_selects (args := #[]) (mvT hZ (hw _ (List.mem_of_getElem? (i := 80) rfl)))) (mvT hZ (hw _ (List.mem_of_getElem? (i := 80) rfl))) (mvT hZ (hw _ (List.mem_of_getElem? (i := 79) rfl))) (by decide) (backOf (W := 0) (rmEE l Z a0 hw [] b5 b29 s107 s112 s117 s122 s136 s141 s146 s151 (own_mc ia1) (own_mc io1) (own_mc ie1) (own_mc iu1) (own_mc ia2) (own_mc io2) (own_mc ie2) (own_mc iu2) z hj284 n0 Zj284 fj284_6 fj284_7 fj284_8 fj284_9 fj284_15 fj284_16 fj284_17 fj284_18 fj284_10 fj284_2 fj284_3 fj284_4 fj284_5 fj284_11 fj284_12 fj284_13 fj284_14 (own_mcok _) (own_mcok _) (own_mcok _) (own_mcok _) (own_mcok _) (own_mcok _) (own_mcok _) (own_mcok _) (own_mclen _) (own_mclen _) (own_mclen _) (own_mclen _) (own_mclen _) (own_mclen _) (own_mclen _) (own_mclen _) fj284_0 hz) hZ (hw _ (List.mem_of_getElem? (i := 81) rfl)) (hw _ (List.mem_of_getElem? (i := 9) rfl)) (by decide) (by decide)) q106a q106c (g := (mkF m 288 #[.val (.long x0), .second, .val (.long x1), .second, .val (.long x2), .second, .val (.long x3), .second, .val (.int x4), .val (.int x5), .val (.int ia1), .val (.int io1), .val (.int ie1), .val (.int iu1), .val (.int ia2), .val (.int io2), .val (.int ie2), .val (.int iu2), .val (.ref b5), .val (.ref b29), .val (.int (x5 &&& (7 : Int32))), .val (.int want)] [(.ref b29), (.ref b5)])) rfl (by rw [hml]; rfl) (Steps.refl _) (argsL := [(.ref b29)]) (rest := []) (lenOf pd_7 rfl) rfl (by show 2 * 0 + _ ≤ _; exact Nat.le_of_eq rfl) (hb hby at_288) (fun _ _ => ⟨rfl, ej284, (by decide : 34 + 0 ≤ _), (by decide : 88 + 0 ≤ _)⟩)
                    dsimp only [Pt.U, Pt.locs, Pt.cells, Pt.slots] at X106 l106 y106 z106 st106 hQ106
                    subst l106 y106 z106
                    obtain ⟨rfl, N106q, e106⟩ := hQ106
                    have N106 := Fr.app Nj284 N106q
                    refine Done.st (B := T106.setTop (mkF m 291 #[.val (.long x0), .second, .val (.long x1), .second, .val (.long x2), .second, .val (.long x3), .second, .val (.int x4), .val (.int x5), .val (.int ia1), .val (.int io1), .val (.int ie1), .val (.int iu1), .val (.int ia2), .val (.int io2), .val (.int ie2), .val (.int iu2), .val (.ref b5), .val (.ref b29), .val (.int (x5 &&& (7 : Int32))), .val (.int want)] [(.int (own_and4 (own_seq (own_mc ia1) (own_mc ia2)) (own_seq (own_mc io1) (own_mc io2)) (own_seq (own_mc ie1) (own_mc ie2)) (own_seq (own_mc iu1) (own_mc iu2))))])) (fun _ k => st106.trans k) ?_
                    refine Done.st (B := T106.setTop (mkF m 293 #[.val (.long x0), .second, .val (.long x1), .second, .val (.long x2), .second, .val (.long x3), .second, .val (.int x4), .val (.int x5), .val (.int ia1), .val (.int io1), .val (.int ie1), .val (.int iu1), .val (.int ia2), .val (.int io2), .val (.int ie2), .val (.int iu2), .val (.ref b5), .val (.ref b29), .val (.int (x5 &&& (7 : Int32))), .val (.int want)] [(.int want), (.int (own_and4 (own_seq (own_mc ia1) (own_mc ia2)) (own_seq (own_mc io1) (own_mc io2)) (own_seq (own_mc ie1) (own_mc ie2)) (own_seq (own_mc iu1) (own_mc iu2))))])) (fun _ k => XS.iload X106.here hx rfl (hb hby at_291) rfl k) ?_
                    refine Done.st (B := T106.setTop (mkF m 296 #[.val (.long x0), .second, .val (.long x1), .second, .val (.long x2), .second, .val (.long x3), .second, .val (.int x4), .val (.int x5), .val (.int ia1), .val (.int io1), .val (.int ie1), .val (.int iu1), .val (.int ia2), .val (.int io2), .val (.int ie2), .val (.int iu2), .val (.ref b5), .val (.ref b29), .val (.int (x5 &&& (7 : Int32))), .val (.int want)] [])) (fun _ k => XS.icmpNo X106.here hx rfl (hb hby at_293) rfl (teq (by rw [hwant]; exact own_law _ _ _ _ _ _ _ _)).2 k) ?_
                    refine Done.st (B := T106.setTop (mkF m 298 #[.val (.long x0), .second, .val (.long x1), .second, .val (.long x2), .second, .val (.long x3), .second, .val (.int x4), .val (.int x5), .val (.int ia1), .val (.int io1), .val (.int ie1), .val (.int iu1), .val (.int ia2), .val (.int io2), .val (.int ie2), .val (.int iu2), .val (.ref b5), .val (.ref b29), .val (.int (x5 &&& (7 : Int32))), .val (.int want)] [(.ref b29)])) (fun _ k => XS.aload X106.here hx rfl (hb hby at_296) rfl rfl k) ?_
                    refine Done.st (B := T106.setTop (mkF m 300 #[.val (.long x0), .second, .val (.long x1), .second, .val (.long x2), .second, .val (.long x3), .second, .val (.int x4), .val (.int x5), .val (.int ia1), .val (.int io1), .val (.int ie1), .val (.int iu1), .val (.int ia2), .val (.int io2), .val (.int ie2), .val (.int iu2), .val (.ref b5), .val (.ref b29), .val (.int (x5 &&& (7 : Int32))), .val (.int want)] [(.ref b5), (.ref b29)])) (fun _ k => XS.aload X106.here hx rfl (hb hby at_298) rfl rfl k) ?_
                    obtain ⟨cq107, kq107, q107a, q107b, q107c⟩ := isOf hZ e106 fj284_10
                    obtain ⟨_, _, ⟨T107, L107, k107, n107⟩, -, X107, ⟨Lc107, hQ107, l107, y107, z107⟩, st107⟩ := X106.virtualBack hx (y := (⟨"com/example/nameward/nameward/model/ClaimsRecord", "equals", "(Ljava/lang/Object;)Z"⟩ : MethodName)) (z := (⟨"com/example/nameward/nameward/model/ClaimsRecord", "equals", "(Ljava/lang/Object;)Z"⟩ : MethodName)) hown (mvT hZ (hw _ (List.mem_of_getElem? (i := 77) rfl))) (mvT hZ (hw _ (List.mem_of_getElem? (i := 78) rfl))) (notFace_of_selects (args := #[]) (mvT hZ (hw _ (List.mem_of_getElem? (i := 80) rfl)))) (mvT hZ (hw _ (List.mem_of_getElem? (i := 80) rfl))) (mvT hZ (hw _ (List.mem_of_getElem? (i := 79) rfl))) (by decide) (backOf (W := 0) (rmEE l Z a0 hw [] b29 b5 s136 s141 s146 s151 s107 s112 s117 s122 (own_mc ia2) (own_mc io2) (own_mc ie2) (own_mc iu2) (own_mc ia1) (own_mc io1) (own_mc ie1) (own_mc iu1) z hj284 n0 Zj284 fj284_15 fj284_16 fj284_17 fj284_18 fj284_6 fj284_7 fj284_8 fj284_9 fj284_1 fj284_11 fj284_12 fj284_13 fj284_14 fj284_2 fj284_3 fj284_4 fj284_5 (own_mcok _) (own_mcok _) (own_mcok _) (own_mcok _) (own_mcok _) (own_mcok _) (own_mcok _) (own_mcok _) (own_mclen _) (own_mclen _) (own_mclen _) (own_mclen _) (own_mclen _) (own_mclen _) (own_mclen _) (own_mclen _) fj284_0 hz) hZ (hw _ (List.mem_of_getElem? (i := 81) rfl)) (hw _ (List.mem_of_getElem? (i := 9) rfl)) (by decide) (by decide)) q107a q107c (g := (mkF m 300 #[.val (.long x0), .second, .val (.long x1), .second, .val (.long x2), .second, .val (.long x3), .second, .val (.int x4), .val (.int x5), .val (.int ia1), .val (.int io1), .val (.int ie1), .val (.int iu1), .val (.int ia2), .val (.int io2), .val (.int ie2), .val (.int iu2), .val (.ref b5), .val (.ref b29), .val (.int (x5 &&& (7 : Int32))), .val (.int want)] [(.ref b5), (.ref b29)])) rfl (by rw [hml]; rfl) (Steps.refl _) (argsL := [(.ref b5)]) (rest := []) (lenOf pd_7 rfl) rfl (by show 2 * 0 + _ ≤ _; exact Nat.le_of_eq rfl) (hb hby at_300) (fun _ _ => ⟨rfl, e106, (by decide : 34 + 0 ≤ _), (by decide : 88 + 0 ≤ _)⟩)
                    dsimp only [Pt.U, Pt.locs, Pt.cells, Pt.slots] at X107 l107 y107 z107 st107 hQ107
                    subst l107 y107 z107
                    obtain ⟨rfl, N107q, e107⟩ := hQ107
                    have N107 := Fr.app N106 N107q
                    refine Done.st (B := T107.setTop (mkF m 303 #[.val (.long x0), .second, .val (.long x1), .second, .val (.long x2), .second, .val (.long x3), .second, .val (.int x4), .val (.int x5), .val (.int ia1), .val (.int io1), .val (.int ie1), .val (.int iu1), .val (.int ia2), .val (.int io2), .val (.int ie2), .val (.int iu2), .val (.ref b5), .val (.ref b29), .val (.int (x5 &&& (7 : Int32))), .val (.int want)] [(.int (own_and4 (own_seq (own_mc ia2) (own_mc ia1)) (own_seq (own_mc io2) (own_mc io1)) (own_seq (own_mc ie2) (own_mc ie1)) (own_seq (own_mc iu2) (own_mc iu1))))])) (fun _ k => st107.trans k) ?_
                    refine Done.st (B := T107.setTop (mkF m 305 #[.val (.long x0), .second, .val (.long x1), .second, .val (.long x2), .second, .val (.long x3), .second, .val (.int x4), .val (.int x5), .val (.int ia1), .val (.int io1), .val (.int ie1), .val (.int iu1), .val (.int ia2), .val (.int io2), .val (.int ie2), .val (.int iu2), .val (.ref b5), .val (.ref b29), .val (.int (x5 &&& (7 : Int32))), .val (.int want)] [(.int want), (.int (own_and4 (own_seq (own_mc ia2) (own_mc ia1)) (own_seq (own_mc io2) (own_mc io1)) (own_seq (own_mc ie2) (own_mc ie1)) (own_seq (own_mc iu2) (own_mc iu1))))])) (fun _ k => XS.iload X107.here hx rfl (hb hby at_303) rfl k) ?_
                    refine Done.st (B := T107.setTop (mkF m 308 #[.val (.long x0), .second, .val (.long x1), .second, .val (.long x2), .second, .val (.long x3), .second, .val (.int x4), .val (.int x5), .val (.int ia1), .val (.int io1), .val (.int ie1), .val (.int iu1), .val (.int ia2), .val (.int io2), .val (.int ie2), .val (.int iu2), .val (.ref b5), .val (.ref b29), .val (.int (x5 &&& (7 : Int32))), .val (.int want)] [])) (fun _ k => XS.icmpNo X107.here hx rfl (hb hby at_305) rfl (teq (by rw [hwant]; exact own_law2 _ _ _ _ _ _ _ _)).2 k) ?_
                    refine Done.st (B := T107.setTop (mkF m 309 #[.val (.long x0), .second, .val (.long x1), .second, .val (.long x2), .second, .val (.long x3), .second, .val (.int x4), .val (.int x5), .val (.int ia1), .val (.int io1), .val (.int ie1), .val (.int iu1), .val (.int ia2), .val (.int io2), .val (.int ie2), .val (.int iu2), .val (.ref b5), .val (.ref b29), .val (.int (x5 &&& (7 : Int32))), .val (.int want)] [(.int (1 : Int32))])) (fun _ k => XS.iconst X107.here hx rfl (hb hby at_308) k) ?_
                    refine Done.st (B := T107.setTop (mkF m 313 #[.val (.long x0), .second, .val (.long x1), .second, .val (.long x2), .second, .val (.long x3), .second, .val (.int x4), .val (.int x5), .val (.int ia1), .val (.int io1), .val (.int ie1), .val (.int iu1), .val (.int ia2), .val (.int io2), .val (.int ie2), .val (.int iu2), .val (.ref b5), .val (.ref b29), .val (.int (x5 &&& (7 : Int32))), .val (.int want)] [(.int (1 : Int32))])) (fun _ k => XS.goto X107.here hx rfl (pc0 := 309) (pc' := 313) rfl (hb hby at_309) (by decide) (by decide) k) ?_
                    obtain ⟨fs, hr, hrun, hended, hWW⟩ := X107.leaveW hS59 (by rw [e107]; exact hkj284) (v := some (.int (1 : Int32))) (hlocks := hlk) (fun h => by rw [Bd.returns] at h; cases h)
                    refine Done.fin (retN X107 hx (t := .boolean) Bd.returns (by simp) (hb hby at_313) hr) hrun hended ⟨_, _, rfl, ?_, ?_, hWW.1, hWW.2.1, hWW.2.2.1, hWW.2.2.2.mono (by decide) (by decide)⟩
                    rotate_left
                    · show CHr Z own_EL s.vm s.heap T107.vm T107.heap
                      rw [hh, e107]
                      exact Rj284.trans (CHv.at X107 hZ hEL Cj284)
                    show Qrm0 Z x0 x1 x2 x3 x4 x5 z h0 n0 _ T107.heap _
                    rw [e107]
                    exact ⟨rfl, N107⟩
                  refine Done.st (B := T76.setTop (mkF m 227 #[.val (.long x0), .second, .val (.long x1), .second, .val (.long x2), .second, .val (.long x3), .second, .val (.int x4), .val (.int x5), .val (.int ia1), .val (.int io1), .val (.int ie1), .val (.int iu1), .val (.int ia2), .val (.int io2), .val (.int ie2), .val (.int iu2), .val (.ref b5), .val (.ref b29), .val (.int (x5 &&& (7 : Int32))), .unset] [(.int ia1)])) (fun _ k => XS.iload X76.here hx rfl (hb hby at_225) rfl k) ?_
                  obtain ⟨_, _, ⟨T109, L109, k109, n109⟩, -, X109, ⟨Lc109, hQ109, l109, y109, z109⟩, st109⟩ := Jvm.LawKit.callS X76 hx (y := (⟨"com/example/nameward/nameward/model/ClaimsRecordEqualsPinLaw", "key", "(I)I"⟩ : MethodName)) hown (mvT hZ (hw _ (List.mem_of_getElem? (i := 85) rfl))) (mvT hZ (hw _ (List.mem_of_getElem? (i := 86) rfl))) (mvT hZ (hw _ (List.mem_of_getElem? (i := 2) rfl))) (mvT hZ (hw _ (List.mem_of_getElem? (i := 87) rfl))) (by decide) (backOf (W := 0) (rmKey l Z a0 hw [] ia1 T76.heap n0 Z76) hZ (hw _ (List.mem_of_getElem? (i := 87) rfl)) (hw _ (List.mem_of_getElem? (i := 2) rfl)) (by decide) (by decide)) (g := (mkF m 227 #[.val (.long x0), .second, .val (.long x1), .second, .val (.long x2), .second, .val (.long x3), .second, .val (.int x4), .val (.int x5), .val (.int ia1), .val (.int io1), .val (.int ie1), .val (.int iu1), .val (.int ia2), .val (.int io2), .val (.int ie2), .val (.int iu2), .val (.ref b5), .val (.ref b29), .val (.int (x5 &&& (7 : Int32))), .unset] [(.int ia1)])) rfl (by rw [hml]; rfl) (argsL := [(.int ia1)]) (rest := []) (lenOf pd_11 rfl) rfl (by show 2 * 0 + _ ≤ _; exact Nat.le_of_eq rfl) (hb hby at_227) (fun _ _ => ⟨rfl, rfl, (by decide : 34 + 0 ≤ _), (by decide : 88 + 0 ≤ _)⟩)
                  dsimp only [Pt.U, Pt.locs, Pt.cells, Pt.slots] at X109 l109 y109 z109 st109 hQ109
                  subst l109 y109 z109
                  obtain ⟨rfl, N109q, e109⟩ := hQ109
                  have N109 := Fr.app N76 N109q
                  refine Done.st (B := T109.setTop (mkF m 230 #[.val (.long x0), .second, .val (.long x1), .second, .val (.long x2), .second, .val (.long x3), .second, .val (.int x4), .val (.int x5), .val (.int ia1), .val (.int io1), .val (.int ie1), .val (.int iu1), .val (.int ia2), .val (.int io2), .val (.int ie2), .val (.int iu2), .val (.ref b5), .val (.ref b29), .val (.int (x5 &&& (7 : Int32))), .unset] [(.int (own_key ia1))])) (fun _ k => st109 _ k) ?_
                  refine Done.st (B := T109.setTop (mkF m 232 #[.val (.long x0), .second, .val (.long x1), .second, .val (.long x2), .second, .val (.long x3), .second, .val (.int x4), .val (.int x5), .val (.int ia1), .val (.int io1), .val (.int ie1), .val (.int iu1), .val (.int ia2), .val (.int io2), .val (.int ie2), .val (.int iu2), .val (.ref b5), .val (.ref b29), .val (.int (x5 &&& (7 : Int32))), .unset] [(.int ia2), (.int (own_key ia1))])) (fun _ k => XS.iload X109.here hx rfl (hb hby at_230) rfl k) ?_
                  obtain ⟨_, _, ⟨T110, L110, k110, n110⟩, -, X110, ⟨Lc110, hQ110, l110, y110, z110⟩, st110⟩ := Jvm.LawKit.callS X109 hx (y := (⟨"com/example/nameward/nameward/model/ClaimsRecordEqualsPinLaw", "key", "(I)I"⟩ : MethodName)) hown (mvT hZ (hw _ (List.mem_of_getElem? (i := 85) rfl))) (mvT hZ (hw _ (List.mem_of_getElem? (i := 86) rfl))) (mvT hZ (hw _ (List.mem_of_getElem? (i := 2) rfl))) (mvT hZ (hw _ (List.mem_of_getElem? (i := 87) rfl))) (by decide) (backOf (W := 1) (rmKey l Z a0 hw [] ia2 T76.heap n0 Z76) hZ (hw _ (List.mem_of_getElem? (i := 87) rfl)) (hw _ (List.mem_of_getElem? (i := 2) rfl)) (by decide) (by decide)) (g := (mkF m 232 #[.val (.long x0), .second, .val (.long x1), .second, .val (.long x2), .second, .val (.long x3), .second, .val (.int x4), .val (.int x5), .val (.int ia1), .val (.int io1), .val (.int ie1), .val (.int iu1), .val (.int ia2), .val (.int io2), .val (.int ie2), .val (.int iu2), .val (.ref b5), .val (.ref b29), .val (.int (x5 &&& (7 : Int32))), .unset] [(.int ia2), (.int (own_key ia1))])) rfl (by rw [hml]; rfl) (argsL := [(.int ia2)]) (rest := [(.int (own_key ia1))]) (lenOf pd_11 rfl) rfl (by show 2 * 0 + _ ≤ _; exact Nat.le_of_eq rfl) (hb hby at_232) (fun _ _ => ⟨rfl, e109, (by decide : 34 + 0 ≤ _), (by decide : 88 + 0 ≤ _)⟩)
                  dsimp only [Pt.U, Pt.locs, Pt.cells, Pt.slots] at X110 l110 y110 z110 st110 hQ110
                  subst l110 y110 z110
                  obtain ⟨rfl, N110q, e110⟩ := hQ110
                  have N110 := Fr.app N109 N110q
                  refine Done.st (B := T110.setTop (mkF m 235 #[.val (.long x0), .second, .val (.long x1), .second, .val (.long x2), .second, .val (.long x3), .second, .val (.int x4), .val (.int x5), .val (.int ia1), .val (.int io1), .val (.int ie1), .val (.int iu1), .val (.int ia2), .val (.int io2), .val (.int ie2), .val (.int iu2), .val (.ref b5), .val (.ref b29), .val (.int (x5 &&& (7 : Int32))), .unset] [(.int (own_key ia2)), (.int (own_key ia1))])) (fun _ k => st110 _ k) ?_
                  by_cases hc235 : (own_key ia1) = (own_key ia2)
                  · refine Done.st (B := T110.setTop (mkF m 238 #[.val (.long x0), .second, .val (.long x1), .second, .val (.long x2), .second, .val (.long x3), .second, .val (.int x4), .val (.int x5), .val (.int ia1), .val (.int io1), .val (.int ie1), .val (.int iu1), .val (.int ia2), .val (.int io2), .val (.int ie2), .val (.int iu2), .val (.ref b5), .val (.ref b29), .val (.int (x5 &&& (7 : Int32))), .unset] [])) (fun _ k => XS.icmpNo X110.here hx rfl (hb hby at_235) rfl (teq hc235).2 k) ?_
                    refine Done.st (B := T110.setTop (mkF m 240 #[.val (.long x0), .second, .val (.long x1), .second, .val (.long x2), .second, .val (.long x3), .second, .val (.int x4), .val (.int x5), .val (.int ia1), .val (.int io1), .val (.int ie1), .val (.int iu1), .val (.int ia2), .val (.int io2), .val (.int ie2), .val (.int iu2), .val (.ref b5), .val (.ref b29), .val (.int (x5 &&& (7 : Int32))), .unset] [(.int io1)])) (fun _ k => XS.iload X110.here hx rfl (hb hby at_238) rfl k) ?_
                    obtain ⟨_, _, ⟨T111, L111, k111, n111⟩, -, X111, ⟨Lc111, hQ111, l111, y111, z111⟩, st111⟩ := Jvm.LawKit.callS X110 hx (y := (⟨"com/example/nameward/nameward/model/ClaimsRecordEqualsPinLaw", "key", "(I)I"⟩ : MethodName)) hown (mvT hZ (hw _ (List.mem_of_getElem? (i := 85) rfl))) (mvT hZ (hw _ (List.mem_of_getElem? (i := 86) rfl))) (mvT hZ (hw _ (List.mem_of_getElem? (i := 2) rfl))) (mvT hZ (hw _ (List.mem_of_getElem? (i := 87) rfl))) (by decide) (backOf (W := 0) (rmKey l Z a0 hw [] io1 T76.heap n0 Z76) hZ (hw _ (List.mem_of_getElem? (i := 87) rfl)) (hw _ (List.mem_of_getElem? (i := 2) rfl)) (by decide) (by decide)) (g := (mkF m 240 #[.val (.long x0), .second, .val (.long x1), .second, .val (.long x2), .second, .val (.long x3), .second, .val (.int x4), .val (.int x5), .val (.int ia1), .val (.int io1), .val (.int ie1), .val (.int iu1), .val (.int ia2), .val (.int io2), .val (.int ie2), .val (.int iu2), .val (.ref b5), .val (.ref b29), .val (.int (x5 &&& (7 : Int32))), .unset] [(.int io1)])) rfl (by rw [hml]; rfl) (argsL := [(.int io1)]) (rest := []) (lenOf pd_11 rfl) rfl (by show 2 * 0 + _ ≤ _; exact Nat.le_of_eq rfl) (hb hby at_240) (fun _ _ => ⟨rfl, e110, (by decide : 34 + 0 ≤ _), (by decide : 88 + 0 ≤ _)⟩)
                    dsimp only [Pt.U, Pt.locs, Pt.cells, Pt.slots] at X111 l111 y111 z111 st111 hQ111
                    subst l111 y111 z111
                    obtain ⟨rfl, N111q, e111⟩ := hQ111
                    have N111 := Fr.app N110 N111q
                    refine Done.st (B := T111.setTop (mkF m 243 #[.val (.long x0), .second, .val (.long x1), .second, .val (.long x2), .second, .val (.long x3), .second, .val (.int x4), .val (.int x5), .val (.int ia1), .val (.int io1), .val (.int ie1), .val (.int iu1), .val (.int ia2), .val (.int io2), .val (.int ie2), .val (.int iu2), .val (.ref b5), .val (.ref b29), .val (.int (x5 &&& (7 : Int32))), .unset] [(.int (own_key io1))])) (fun _ k => st111 _ k) ?_
                    refine Done.st (B := T111.setTop (mkF m 245 #[.val (.long x0), .second, .val (.long x1), .second, .val (.long x2), .second, .val (.long x3), .second, .val (.int x4), .val (.int x5), .val (.int ia1), .val (.int io1), .val (.int ie1), .val (.int iu1), .val (.int ia2), .val (.int io2), .val (.int ie2), .val (.int iu2), .val (.ref b5), .val (.ref b29), .val (.int (x5 &&& (7 : Int32))), .unset] [(.int io2), (.int (own_key io1))])) (fun _ k => XS.iload X111.here hx rfl (hb hby at_243) rfl k) ?_
                    obtain ⟨_, _, ⟨T112, L112, k112, n112⟩, -, X112, ⟨Lc112, hQ112, l112, y112, z112⟩, st112⟩ := Jvm.LawKit.callS X111 hx (y := (⟨"com/example/nameward/nameward/model/ClaimsRecordEqualsPinLaw", "key", "(I)I"⟩ : MethodName)) hown (mvT hZ (hw _ (List.mem_of_getElem? (i := 85) rfl))) (mvT hZ (hw _ (List.mem_of_getElem? (i := 86) rfl))) (mvT hZ (hw _ (List.mem_of_getElem? (i := 2) rfl))) (mvT hZ (hw _ (List.mem_of_getElem? (i := 87) rfl))) (by decide) (backOf (W := 1) (rmKey l Z a0 hw [] io2 T76.heap n0 Z76) hZ (hw _ (List.mem_of_getElem? (i := 87) rfl)) (hw _ (List.mem_of_getElem? (i := 2) rfl)) (by decide) (by decide)) (g := (mkF m 245 #[.val (.long x0), .second, .val (.long x1), .second, .val (.long x2), .second, .val (.long x3), .second, .val (.int x4), .val (.int x5), .val (.int ia1), .val (.int io1), .val (.int ie1), .val (.int iu1), .val (.int ia2), .val (.int io2), .val (.int ie2), .val (.int iu2), .val (.ref b5), .val (.ref b29), .val (.int (x5 &&& (7 : Int32))), .unset] [(.int io2), (.int (own_key io1))])) rfl (by rw [hml]; rfl) (argsL := [(.int io2)]) (rest := [(.int (own_key io1))]) (lenOf pd_11 rfl) rfl (by show 2 * 0 + _ ≤ _; exact Nat.le_of_eq rfl) (hb hby at_245) (fun _ _ => ⟨rfl, e111, (by decide : 34 + 0 ≤ _), (by decide : 88 + 0 ≤ _)⟩)
                    dsimp only [Pt.U, Pt.locs, Pt.cells, Pt.slots] at X112 l112 y112 z112 st112 hQ112
                    subst l112 y112 z112
                    obtain ⟨rfl, N112q, e112⟩ := hQ112
                    have N112 := Fr.app N111 N112q
                    refine Done.st (B := T112.setTop (mkF m 248 #[.val (.long x0), .second, .val (.long x1), .second, .val (.long x2), .second, .val (.long x3), .second, .val (.int x4), .val (.int x5), .val (.int ia1), .val (.int io1), .val (.int ie1), .val (.int iu1), .val (.int ia2), .val (.int io2), .val (.int ie2), .val (.int iu2), .val (.ref b5), .val (.ref b29), .val (.int (x5 &&& (7 : Int32))), .unset] [(.int (own_key io2)), (.int (own_key io1))])) (fun _ k => st112 _ k) ?_
                    by_cases hc248 : (own_key io1) = (own_key io2)
                    · refine Done.st (B := T112.setTop (mkF m 251 #[.val (.long x0), .second, .val (.long x1), .second, .val (.long x2), .second, .val (.long x3), .second, .val (.int x4), .val (.int x5), .val (.int ia1), .val (.int io1), .val (.int ie1), .val (.int iu1), .val (.int ia2), .val (.int io2), .val (.int ie2), .val (.int iu2), .val (.ref b5), .val (.ref b29), .val (.int (x5 &&& (7 : Int32))), .unset] [])) (fun _ k => XS.icmpNo X112.here hx rfl (hb hby at_248) rfl (teq hc248).2 k) ?_
                      refine Done.st (B := T112.setTop (mkF m 253 #[.val (.long x0), .second, .val (.long x1), .second, .val (.long x2), .second, .val (.long x3), .second, .val (.int x4), .val (.int x5), .val (.int ia1), .val (.int io1), .val (.int ie1), .val (.int iu1), .val (.int ia2), .val (.int io2), .val (.int ie2), .val (.int iu2), .val (.ref b5), .val (.ref b29), .val (.int (x5 &&& (7 : Int32))), .unset] [(.int ie1)])) (fun _ k => XS.iload X112.here hx rfl (hb hby at_251) rfl k) ?_
                      obtain ⟨_, _, ⟨T113, L113, k113, n113⟩, -, X113, ⟨Lc113, hQ113, l113, y113, z113⟩, st113⟩ := Jvm.LawKit.callS X112 hx (y := (⟨"com/example/nameward/nameward/model/ClaimsRecordEqualsPinLaw", "key", "(I)I"⟩ : MethodName)) hown (mvT hZ (hw _ (List.mem_of_getElem? (i := 85) rfl))) (mvT hZ (hw _ (List.mem_of_getElem? (i := 86) rfl))) (mvT hZ (hw _ (List.mem_of_getElem? (i := 2) rfl))) (mvT hZ (hw _ (List.mem_of_getElem? (i := 87) rfl))) (by decide) (backOf (W := 0) (rmKey l Z a0 hw [] ie1 T76.heap n0 Z76) hZ (hw _ (List.mem_of_getElem? (i := 87) rfl)) (hw _ (List.mem_of_getElem? (i := 2) rfl)) (by decide) (by decide)) (g := (mkF m 253 #[.val (.long x0), .second, .val (.long x1), .second, .val (.long x2), .second, .val (.long x3), .second, .val (.int x4), .val (.int x5), .val (.int ia1), .val (.int io1), .val (.int ie1), .val (.int iu1), .val (.int ia2), .val (.int io2), .val (.int ie2), .val (.int iu2), .val (.ref b5), .val (.ref b29), .val (.int (x5 &&& (7 : Int32))), .unset] [(.int ie1)])) rfl (by rw [hml]; rfl) (argsL := [(.int ie1)]) (rest := []) (lenOf pd_11 rfl) rfl (by show 2 * 0 + _ ≤ _; exact Nat.le_of_eq rfl) (hb hby at_253) (fun _ _ => ⟨rfl, e112, (by decide : 34 + 0 ≤ _), (by decide : 88 + 0 ≤ _)⟩)
                      dsimp only [Pt.U, Pt.locs, Pt.cells, Pt.slots] at X113 l113 y113 z113 st113 hQ113
                      subst l113 y113 z113
                      obtain ⟨rfl, N113q, e113⟩ := hQ113
                      have N113 := Fr.app N112 N113q
                      refine Done.st (B := T113.setTop (mkF m 256 #[.val (.long x0), .second, .val (.long x1), .second, .val (.long x2), .second, .val (.long x3), .second, .val (.int x4), .val (.int x5), .val (.int ia1), .val (.int io1), .val (.int ie1), .val (.int iu1), .val (.int ia2), .val (.int io2), .val (.int ie2), .val (.int iu2), .val (.ref b5), .val (.ref b29), .val (.int (x5 &&& (7 : Int32))), .unset] [(.int (own_key ie1))])) (fun _ k => st113 _ k) ?_
                      refine Done.st (B := T113.setTop (mkF m 258 #[.val (.long x0), .second, .val (.long x1), .second, .val (.long x2), .second, .val (.long x3), .second, .val (.int x4), .val (.int x5), .val (.int ia1), .val (.int io1), .val (.int ie1), .val (.int iu1), .val (.int ia2), .val (.int io2), .val (.int ie2), .val (.int iu2), .val (.ref b5), .val (.ref b29), .val (.int (x5 &&& (7 : Int32))), .unset] [(.int ie2), (.int (own_key ie1))])) (fun _ k => XS.iload X113.here hx rfl (hb hby at_256) rfl k) ?_
                      obtain ⟨_, _, ⟨T114, L114, k114, n114⟩, -, X114, ⟨Lc114, hQ114, l114, y114, z114⟩, st114⟩ := Jvm.LawKit.callS X113 hx (y := (⟨"com/example/nameward/nameward/model/ClaimsRecordEqualsPinLaw", "key", "(I)I"⟩ : MethodName)) hown (mvT hZ (hw _ (List.mem_of_getElem? (i := 85) rfl))) (mvT hZ (hw _ (List.mem_of_getElem? (i := 86) rfl))) (mvT hZ (hw _ (List.mem_of_getElem? (i := 2) rfl))) (mvT hZ (hw _ (List.mem_of_getElem? (i := 87) rfl))) (by decide) (backOf (W := 1) (rmKey l Z a0 hw [] ie2 T76.heap n0 Z76) hZ (hw _ (List.mem_of_getElem? (i := 87) rfl)) (hw _ (List.mem_of_getElem? (i := 2) rfl)) (by decide) (by decide)) (g := (mkF m 258 #[.val (.long x0), .second, .val (.long x1), .second, .val (.long x2), .second, .val (.long x3), .second, .val (.int x4), .val (.int x5), .val (.int ia1), .val (.int io1), .val (.int ie1), .val (.int iu1), .val (.int ia2), .val (.int io2), .val (.int ie2), .val (.int iu2), .val (.ref b5), .val (.ref b29), .val (.int (x5 &&& (7 : Int32))), .unset] [(.int ie2), (.int (own_key ie1))])) rfl (by rw [hml]; rfl) (argsL := [(.int ie2)]) (rest := [(.int (own_key ie1))]) (lenOf pd_11 rfl) rfl (by show 2 * 0 + _ ≤ _; exact Nat.le_of_eq rfl) (hb hby at_258) (fun _ _ => ⟨rfl, e113, (by decide : 34 + 0 ≤ _), (by decide : 88 + 0 ≤ _)⟩)
                      dsimp only [Pt.U, Pt.locs, Pt.cells, Pt.slots] at X114 l114 y114 z114 st114 hQ114
                      subst l114 y114 z114
                      obtain ⟨rfl, N114q, e114⟩ := hQ114
                      have N114 := Fr.app N113 N114q
                      refine Done.st (B := T114.setTop (mkF m 261 #[.val (.long x0), .second, .val (.long x1), .second, .val (.long x2), .second, .val (.long x3), .second, .val (.int x4), .val (.int x5), .val (.int ia1), .val (.int io1), .val (.int ie1), .val (.int iu1), .val (.int ia2), .val (.int io2), .val (.int ie2), .val (.int iu2), .val (.ref b5), .val (.ref b29), .val (.int (x5 &&& (7 : Int32))), .unset] [(.int (own_key ie2)), (.int (own_key ie1))])) (fun _ k => st114 _ k) ?_
                      by_cases hc261 : (own_key ie1) = (own_key ie2)
                      · refine Done.st (B := T114.setTop (mkF m 264 #[.val (.long x0), .second, .val (.long x1), .second, .val (.long x2), .second, .val (.long x3), .second, .val (.int x4), .val (.int x5), .val (.int ia1), .val (.int io1), .val (.int ie1), .val (.int iu1), .val (.int ia2), .val (.int io2), .val (.int ie2), .val (.int iu2), .val (.ref b5), .val (.ref b29), .val (.int (x5 &&& (7 : Int32))), .unset] [])) (fun _ k => XS.icmpNo X114.here hx rfl (hb hby at_261) rfl (teq hc261).2 k) ?_
                        refine Done.st (B := T114.setTop (mkF m 266 #[.val (.long x0), .second, .val (.long x1), .second, .val (.long x2), .second, .val (.long x3), .second, .val (.int x4), .val (.int x5), .val (.int ia1), .val (.int io1), .val (.int ie1), .val (.int iu1), .val (.int ia2), .val (.int io2), .val (.int ie2), .val (.int iu2), .val (.ref b5), .val (.ref b29), .val (.int (x5 &&& (7 : Int32))), .unset] [(.int iu1)])) (fun _ k => XS.iload X114.here hx rfl (hb hby at_264) rfl k) ?_
                        obtain ⟨_, _, ⟨T115, L115, k115, n115⟩, -, X115, ⟨Lc115, hQ115, l115, y115, z115⟩, st115⟩ := Jvm.LawKit.callS X114 hx (y := (⟨"com/example/nameward/nameward/model/ClaimsRecordEqualsPinLaw", "key", "(I)I"⟩ : MethodName)) hown (mvT hZ (hw _ (List.mem_of_getElem? (i := 85) rfl))) (mvT hZ (hw _ (List.mem_of_getElem? (i := 86) rfl))) (mvT hZ (hw _ (List.mem_of_getElem? (i := 2) rfl))) (mvT hZ (hw _ (List.mem_of_getElem? (i := 87) rfl))) (by decide) (backOf (W := 0) (rmKey l Z a0 hw [] iu1 T76.heap n0 Z76) hZ (hw _ (List.mem_of_getElem? (i := 87) rfl)) (hw _ (List.mem_of_getElem? (i := 2) rfl)) (by decide) (by decide)) (g := (mkF m 266 #[.val (.long x0), .second, .val (.long x1), .second, .val (.long x2), .second, .val (.long x3), .second, .val (.int x4), .val (.int x5), .val (.int ia1), .val (.int io1), .val (.int ie1), .val (.int iu1), .val (.int ia2), .val (.int io2), .val (.int ie2), .val (.int iu2), .val (.ref b5), .val (.ref b29), .val (.int (x5 &&& (7 : Int32))), .unset] [(.int iu1)])) rfl (by rw [hml]; rfl) (argsL := [(.int iu1)]) (rest := []) (lenOf pd_11 rfl) rfl (by show 2 * 0 + _ ≤ _; exact Nat.le_of_eq rfl) (hb hby at_266) (fun _ _ => ⟨rfl, e114, (by decide : 34 + 0 ≤ _), (by decide : 88 + 0 ≤ _)⟩)
                        dsimp only [Pt.U, Pt.locs, Pt.cells, Pt.slots] at X115 l115 y115 z115 st115 hQ115
                        subst l115 y115 z115
                        obtain ⟨rfl, N115q, e115⟩ := hQ115
                        have N115 := Fr.app N114 N115q
                        refine Done.st (B := T115.setTop (mkF m 269 #[.val (.long x0), .second, .val (.long x1), .second, .val (.long x2), .second, .val (.long x3), .second, .val (.int x4), .val (.int x5), .val (.int ia1), .val (.int io1), .val (.int ie1), .val (.int iu1), .val (.int ia2), .val (.int io2), .val (.int ie2), .val (.int iu2), .val (.ref b5), .val (.ref b29), .val (.int (x5 &&& (7 : Int32))), .unset] [(.int (own_key iu1))])) (fun _ k => st115 _ k) ?_
                        refine Done.st (B := T115.setTop (mkF m 271 #[.val (.long x0), .second, .val (.long x1), .second, .val (.long x2), .second, .val (.long x3), .second, .val (.int x4), .val (.int x5), .val (.int ia1), .val (.int io1), .val (.int ie1), .val (.int iu1), .val (.int ia2), .val (.int io2), .val (.int ie2), .val (.int iu2), .val (.ref b5), .val (.ref b29), .val (.int (x5 &&& (7 : Int32))), .unset] [(.int iu2), (.int (own_key iu1))])) (fun _ k => XS.iload X115.here hx rfl (hb hby at_269) rfl k) ?_
                        obtain ⟨_, _, ⟨T116, L116, k116, n116⟩, -, X116, ⟨Lc116, hQ116, l116, y116, z116⟩, st116⟩ := Jvm.LawKit.callS X115 hx (y := (⟨"com/example/nameward/nameward/model/ClaimsRecordEqualsPinLaw", "key", "(I)I"⟩ : MethodName)) hown (mvT hZ (hw _ (List.mem_of_getElem? (i := 85) rfl))) (mvT hZ (hw _ (List.mem_of_getElem? (i := 86) rfl))) (mvT hZ (hw _ (List.mem_of_getElem? (i := 2) rfl))) (mvT hZ (hw _ (List.mem_of_getElem? (i := 87) rfl))) (by decide) (backOf (W := 1) (rmKey l Z a0 hw [] iu2 T76.heap n0 Z76) hZ (hw _ (List.mem_of_getElem? (i := 87) rfl)) (hw _ (List.mem_of_getElem? (i := 2) rfl)) (by decide) (by decide)) (g := (mkF m 271 #[.val (.long x0), .second, .val (.long x1), .second, .val (.long x2), .second, .val (.long x3), .second, .val (.int x4), .val (.int x5), .val (.int ia1), .val (.int io1), .val (.int ie1), .val (.int iu1), .val (.int ia2), .val (.int io2), .val (.int ie2), .val (.int iu2), .val (.ref b5), .val (.ref b29), .val (.int (x5 &&& (7 : Int32))), .unset] [(.int iu2), (.int (own_key iu1))])) rfl (by rw [hml]; rfl) (argsL := [(.int iu2)]) (rest := [(.int (own_key iu1))]) (lenOf pd_11 rfl) rfl (by show 2 * 0 + _ ≤ _; exact Nat.le_of_eq rfl) (hb hby at_271) (fun _ _ => ⟨rfl, e115, (by decide : 34 + 0 ≤ _), (by decide : 88 + 0 ≤ _)⟩)
                        dsimp only [Pt.U, Pt.locs, Pt.cells, Pt.slots] at X116 l116 y116 z116 st116 hQ116
                        subst l116 y116 z116
                        obtain ⟨rfl, N116q, e116⟩ := hQ116
                        have N116 := Fr.app N115 N116q
                        refine Done.st (B := T116.setTop (mkF m 274 #[.val (.long x0), .second, .val (.long x1), .second, .val (.long x2), .second, .val (.long x3), .second, .val (.int x4), .val (.int x5), .val (.int ia1), .val (.int io1), .val (.int ie1), .val (.int iu1), .val (.int ia2), .val (.int io2), .val (.int ie2), .val (.int iu2), .val (.ref b5), .val (.ref b29), .val (.int (x5 &&& (7 : Int32))), .unset] [(.int (own_key iu2)), (.int (own_key iu1))])) (fun _ k => st116 _ k) ?_
                        by_cases hc274 : (own_key iu1) = (own_key iu2)
                        · refine Done.st (B := T116.setTop (mkF m 277 #[.val (.long x0), .second, .val (.long x1), .second, .val (.long x2), .second, .val (.long x3), .second, .val (.int x4), .val (.int x5), .val (.int ia1), .val (.int io1), .val (.int ie1), .val (.int iu1), .val (.int ia2), .val (.int io2), .val (.int ie2), .val (.int iu2), .val (.ref b5), .val (.ref b29), .val (.int (x5 &&& (7 : Int32))), .unset] [])) (fun _ k => XS.icmpNo X116.here hx rfl (hb hby at_274) rfl (teq hc274).2 k) ?_
                          refine Done.st (B := T116.setTop (mkF m 278 #[.val (.long x0), .second, .val (.long x1), .second, .val (.long x2), .second, .val (.long x3), .second, .val (.int x4), .val (.int x5), .val (.int ia1), .val (.int io1), .val (.int ie1), .val (.int iu1), .val (.int ia2), .val (.int io2), .val (.int ie2), .val (.int iu2), .val (.ref b5), .val (.ref b29), .val (.int (x5 &&& (7 : Int32))), .unset] [(.int (1 : Int32))])) (fun _ k => XS.iconst X116.here hx rfl (hb hby at_277) k) ?_
                          refine Done.st (B := T116.setTop (mkF m 282 #[.val (.long x0), .second, .val (.long x1), .second, .val (.long x2), .second, .val (.long x3), .second, .val (.int x4), .val (.int x5), .val (.int ia1), .val (.int io1), .val (.int ie1), .val (.int iu1), .val (.int ia2), .val (.int io2), .val (.int ie2), .val (.int iu2), .val (.ref b5), .val (.ref b29), .val (.int (x5 &&& (7 : Int32))), .unset] [(.int (1 : Int32))])) (fun _ k => XS.goto X116.here hx rfl (pc0 := 278) (pc' := 282) rfl (hb hby at_278) (by decide) (by decide) k) ?_
                          refine Done.st (B := T116.setTop (mkF m 284 #[.val (.long x0), .second, .val (.long x1), .second, .val (.long x2), .second, .val (.long x3), .second, .val (.int x4), .val (.int x5), .val (.int ia1), .val (.int io1), .val (.int ie1), .val (.int iu1), .val (.int ia2), .val (.int io2), .val (.int ie2), .val (.int iu2), .val (.ref b5), .val (.ref b29), .val (.int (x5 &&& (7 : Int32))), .val (.int (1 : Int32))] [])) (fun _ k => XS.istore X116.here hx rfl (hb hby at_282) rfl (l' := #[.val (.long x0), .second, .val (.long x1), .second, .val (.long x2), .second, .val (.long x3), .second, .val (.int x4), .val (.int x5), .val (.int ia1), .val (.int io1), .val (.int ie1), .val (.int iu1), .val (.int ia2), .val (.int io2), .val (.int ie2), .val (.int iu2), .val (.ref b5), .val (.ref b29), .val (.int (x5 &&& (7 : Int32))), .val (.int (1 : Int32))]) rfl k) ?_
                          have c117 := (own_sta_keep (own_sta_keep c58 K59 all0) K76 (allS (own_ns_exa c75) all0))
                          have c118 := ((c60.keep K59).keep K76)
                          have c119 := ((c61.keep K59 nin0 all0).keep K76 (ninS ne_s107_b29 nin0) (allS na76_b29 all0))
                          have c120 := ((c62.keep K59 nin0 all0).keep K76 (ninS ne_s112_b29 nin0) (allS na76_b29 all0))
                          have c121 := ((c63.keep K59 nin0 all0).keep K76 (ninS ne_s117_b29 nin0) (allS na76_b29 all0))
                          have c122 := ((c64.keep K59 nin0 all0).keep K76 (ninS ne_s122_b29 nin0) (allS na76_b29 all0))
                          have c123 := ((((((Fld.ext E29 f28_1).keep K35 nin0).keep K42 nin0).keep K50 nin0).keep K59 nin0).keep K76 (ninS ne_b5_b29 nin0))
                          have c124 := ((((((Fld.ext E29 f28_2).keep K35 nin0).keep K42 nin0).keep K50 nin0).keep K59 nin0).keep K76 (ninS ne_b5_b29 nin0))
                          have c125 := ((((((Fld.ext E29 f28_3).keep K35 nin0).keep K42 nin0).keep K50 nin0).keep K59 nin0).keep K76 (ninS ne_b5_b29 nin0))
                          have c126 := ((((((Fld.ext E29 f28_4).keep K35 nin0).keep K42 nin0).keep K50 nin0).keep K59 nin0).keep K76 (ninS ne_b5_b29 nin0))
                          have c127 := (c68.keep K76 (ninS (Ne.symm ne_b29_s136) nin0) (allS na76_b29 all0))
                          have c128 := (c69.keep K76 (ninS (Ne.symm ne_b29_s141) nin0) (allS na76_b29 all0))
                          have c129 := (c70.keep K76 (ninS (Ne.symm ne_b29_s146) nin0) (allS na76_b29 all0))
                          have c130 := (f59_0.keep K76 (ninS (Ne.symm ne_b29_s151) nin0) (allS na76_b29 all0))
                          exact j284  T116 T76.heap _ X116 e116 N116 Z76 C76 R76 hk76 c117 c118 c119 c120 c121 c122 c123 c124 c125 c126 f76_0 c127 c128 c129 c130 f76_1 f76_2 f76_3 f76_4 (1 : Int32) (by simp [own_exp, hc235, hc248, hc261, hc274])
                        · refine Done.st (B := T116.setTop (mkF m 281 #[.val (.long x0), .second, .val (.long x1), .second, .val (.long x2), .second, .val (.long x3), .second, .val (.int x4), .val (.int x5), .val (.int ia1), .val (.int io1), .val (.int ie1), .val (.int iu1), .val (.int ia2), .val (.int io2), .val (.int ie2), .val (.int iu2), .val (.ref b5), .val (.ref b29), .val (.int (x5 &&& (7 : Int32))), .unset] [])) (fun _ k => XS.icmpYes X116.here hx rfl (pc0 := 274) (pc' := 281) rfl (hb hby at_274) rfl (feq hc274).2 (by decide) (by decide) k) ?_
                          refine Done.st (B := T116.setTop (mkF m 282 #[.val (.long x0), .second, .val (.long x1), .second, .val (.long x2), .second, .val (.long x3), .second, .val (.int x4), .val (.int x5), .val (.int ia1), .val (.int io1), .val (.int ie1), .val (.int iu1), .val (.int ia2), .val (.int io2), .val (.int ie2), .val (.int iu2), .val (.ref b5), .val (.ref b29), .val (.int (x5 &&& (7 : Int32))), .unset] [(.int (0 : Int32))])) (fun _ k => XS.iconst X116.here hx rfl (hb hby at_281) k) ?_
                          refine Done.st (B := T116.setTop (mkF m 284 #[.val (.long x0), .second, .val (.long x1), .second, .val (.long x2), .second, .val (.long x3), .second, .val (.int x4), .val (.int x5), .val (.int ia1), .val (.int io1), .val (.int ie1), .val (.int iu1), .val (.int ia2), .val (.int io2), .val (.int ie2), .val (.int iu2), .val (.ref b5), .val (.ref b29), .val (.int (x5 &&& (7 : Int32))), .val (.int (0 : Int32))] [])) (fun _ k => XS.istore X116.here hx rfl (hb hby at_282) rfl (l' := #[.val (.long x0), .second, .val (.long x1), .second, .val (.long x2), .second, .val (.long x3), .second, .val (.int x4), .val (.int x5), .val (.int ia1), .val (.int io1), .val (.int ie1), .val (.int iu1), .val (.int ia2), .val (.int io2), .val (.int ie2), .val (.int iu2), .val (.ref b5), .val (.ref b29), .val (.int (x5 &&& (7 : Int32))), .val (.int (0 : Int32))]) rfl k) ?_
                          have c131 := (own_sta_keep (own_sta_keep c58 K59 all0) K76 (allS (own_ns_exa c75) all0))
                          have c132 := ((c60.keep K59).keep K76)
                          have c133 := ((c61.keep K59 nin0 all0).keep K76 (ninS ne_s107_b29 nin0) (allS na76_b29 all0))
                          have c134 := ((c62.keep K59 nin0 all0).keep K76 (ninS ne_s112_b29 nin0) (allS na76_b29 all0))
                          have c135 := ((c63.keep K59 nin0 all0).keep K76 (ninS ne_s117_b29 nin0) (allS na76_b29 all0))
                          have c136 := ((c64.keep K59 nin0 all0).keep K76 (ninS ne_s122_b29 nin0) (allS na76_b29 all0))
                          have c137 := ((((((Fld.ext E29 f28_1).keep K35 nin0).keep K42 nin0).keep K50 nin0).keep K59 nin0).keep K76 (ninS ne_b5_b29 nin0))
                          have c138 := ((((((Fld.ext E29 f28_2).keep K35 nin0).keep K42 nin0).keep K50 nin0).keep K59 nin0).keep K76 (ninS ne_b5_b29 nin0))
                          have c139 := ((((((Fld.ext E29 f28_3).keep K35 nin0).keep K42 nin0).keep K50 nin0).keep K59 nin0).keep K76 (ninS ne_b5_b29 nin0))
                          have c140 := ((((((Fld.ext E29 f28_4).keep K35 nin0).keep K42 nin0).keep K50 nin0).keep K59 nin0).keep K76 (ninS ne_b5_b29 nin0))
                          have c141 := (c68.keep K76 (ninS (Ne.symm ne_b29_s136) nin0) (allS na76_b29 all0))
                          have c142 := (c69.keep K76 (ninS (Ne.symm ne_b29_s141) nin0) (allS na76_b29 all0))
                          have c143 := (c70.keep K76 (ninS (Ne.symm ne_b29_s146) nin0) (allS na76_b29 all0))
                          have c144 := (f59_0.keep K76 (ninS (Ne.symm ne_b29_s151) nin0) (allS na76_b29 all0))
                          exact j284  T116 T76.heap _ X116 e116 N116 Z76 C76 R76 hk76 c131 c132 c133 c134 c135 c136 c137 c138 c139 c140 f76_0 c141 c142 c143 c144 f76_1 f76_2 f76_3 f76_4 (0 : Int32) (by simp [own_exp, hc235, hc248, hc261, hc274])
                      · refine Done.st (B := T114.setTop (mkF m 281 #[.val (.long x0), .second, .val (.long x1), .second, .val (.long x2), .second, .val (.long x3), .second, .val (.int x4), .val (.int x5), .val (.int ia1), .val (.int io1), .val (.int ie1), .val (.int iu1), .val (.int ia2), .val (.int io2), .val (.int ie2), .val (.int iu2), .val (.ref b5), .val (.ref b29), .val (.int (x5 &&& (7 : Int32))), .unset] [])) (fun _ k => XS.icmpYes X114.here hx rfl (pc0 := 261) (pc' := 281) rfl (hb hby at_261) rfl (feq hc261).2 (by decide) (by decide) k) ?_
                        refine Done.st (B := T114.setTop (mkF m 282 #[.val (.long x0), .second, .val (.long x1), .second, .val (.long x2), .second, .val (.long x3), .second, .val (.int x4), .val (.int x5), .val (.int ia1), .val (.int io1), .val (.int ie1), .val (.int iu1), .val (.int ia2), .val (.int io2), .val (.int ie2), .val (.int iu2), .val (.ref b5), .val (.ref b29), .val (.int (x5 &&& (7 : Int32))), .unset] [(.int (0 : Int32))])) (fun _ k => XS.iconst X114.here hx rfl (hb hby at_281) k) ?_
                        refine Done.st (B := T114.setTop (mkF m 284 #[.val (.long x0), .second, .val (.long x1), .second, .val (.long x2), .second, .val (.long x3), .second, .val (.int x4), .val (.int x5), .val (.int ia1), .val (.int io1), .val (.int ie1), .val (.int iu1), .val (.int ia2), .val (.int io2), .val (.int ie2), .val (.int iu2), .val (.ref b5), .val (.ref b29), .val (.int (x5 &&& (7 : Int32))), .val (.int (0 : Int32))] [])) (fun _ k => XS.istore X114.here hx rfl (hb hby at_282) rfl (l' := #[.val (.long x0), .second, .val (.long x1), .second, .val (.long x2), .second, .val (.long x3), .second, .val (.int x4), .val (.int x5), .val (.int ia1), .val (.int io1), .val (.int ie1), .val (.int iu1), .val (.int ia2), .val (.int io2), .val (.int ie2), .val (.int iu2), .val (.ref b5), .val (.ref b29), .val (.int (x5 &&& (7 : Int32))), .val (.int (0 : Int32))]) rfl k) ?_
                        have c145 := (own_sta_keep (own_sta_keep c58 K59 all0) K76 (allS (own_ns_exa c75) all0))
                        have c146 := ((c60.keep K59).keep K76)
                        have c147 := ((c61.keep K59 nin0 all0).keep K76 (ninS ne_s107_b29 nin0) (allS na76_b29 all0))
                        have c148 := ((c62.keep K59 nin0 all0).keep K76 (ninS ne_s112_b29 nin0) (allS na76_b29 all0))
                        have c149 := ((c63.keep K59 nin0 all0).keep K76 (ninS ne_s117_b29 nin0) (allS na76_b29 all0))
                        have c150 := ((c64.keep K59 nin0 all0).keep K76 (ninS ne_s122_b29 nin0) (allS na76_b29 all0))
                        have c151 := ((((((Fld.ext E29 f28_1).keep K35 nin0).keep K42 nin0).keep K50 nin0).keep K59 nin0).keep K76 (ninS ne_b5_b29 nin0))
                        have c152 := ((((((Fld.ext E29 f28_2).keep K35 nin0).keep K42 nin0).keep K50 nin0).keep K59 nin0).keep K76 (ninS ne_b5_b29 nin0))
                        have c153 := ((((((Fld.ext E29 f28_3).keep K35 nin0).keep K42 nin0).keep K50 nin0).keep K59 nin0).keep K76 (ninS ne_b5_b29 nin0))
                        have c154 := ((((((Fld.ext E29 f28_4).keep K35 nin0).keep K42 nin0).keep K50 nin0).keep K59 nin0).keep K76 (ninS ne_b5_b29 nin0))
                        have c155 := (c68.keep K76 (ninS (Ne.symm ne_b29_s136) nin0) (allS na76_b29 all0))
                        have c156 := (c69.keep K76 (ninS (Ne.symm ne_b29_s141) nin0) (allS na76_b29 all0))
                        have c157 := (c70.keep K76 (ninS (Ne.symm ne_b29_s146) nin0) (allS na76_b29 all0))
                        have c158 := (f59_0.keep K76 (ninS (Ne.symm ne_b29_s151) nin0) (allS na76_b29 all0))
                        exact j284  T114 T76.heap _ X114 e114 N114 Z76 C76 R76 hk76 c145 c146 c147 c148 c149 c150 c151 c152 c153 c154 f76_0 c155 c156 c157 c158 f76_1 f76_2 f76_3 f76_4 (0 : Int32) (by simp [own_exp, hc235, hc248, hc261])
                    · refine Done.st (B := T112.setTop (mkF m 281 #[.val (.long x0), .second, .val (.long x1), .second, .val (.long x2), .second, .val (.long x3), .second, .val (.int x4), .val (.int x5), .val (.int ia1), .val (.int io1), .val (.int ie1), .val (.int iu1), .val (.int ia2), .val (.int io2), .val (.int ie2), .val (.int iu2), .val (.ref b5), .val (.ref b29), .val (.int (x5 &&& (7 : Int32))), .unset] [])) (fun _ k => XS.icmpYes X112.here hx rfl (pc0 := 248) (pc' := 281) rfl (hb hby at_248) rfl (feq hc248).2 (by decide) (by decide) k) ?_
                      refine Done.st (B := T112.setTop (mkF m 282 #[.val (.long x0), .second, .val (.long x1), .second, .val (.long x2), .second, .val (.long x3), .second, .val (.int x4), .val (.int x5), .val (.int ia1), .val (.int io1), .val (.int ie1), .val (.int iu1), .val (.int ia2), .val (.int io2), .val (.int ie2), .val (.int iu2), .val (.ref b5), .val (.ref b29), .val (.int (x5 &&& (7 : Int32))), .unset] [(.int (0 : Int32))])) (fun _ k => XS.iconst X112.here hx rfl (hb hby at_281) k) ?_
                      refine Done.st (B := T112.setTop (mkF m 284 #[.val (.long x0), .second, .val (.long x1), .second, .val (.long x2), .second, .val (.long x3), .second, .val (.int x4), .val (.int x5), .val (.int ia1), .val (.int io1), .val (.int ie1), .val (.int iu1), .val (.int ia2), .val (.int io2), .val (.int ie2), .val (.int iu2), .val (.ref b5), .val (.ref b29), .val (.int (x5 &&& (7 : Int32))), .val (.int (0 : Int32))] [])) (fun _ k => XS.istore X112.here hx rfl (hb hby at_282) rfl (l' := #[.val (.long x0), .second, .val (.long x1), .second, .val (.long x2), .second, .val (.long x3), .second, .val (.int x4), .val (.int x5), .val (.int ia1), .val (.int io1), .val (.int ie1), .val (.int iu1), .val (.int ia2), .val (.int io2), .val (.int ie2), .val (.int iu2), .val (.ref b5), .val (.ref b29), .val (.int (x5 &&& (7 : Int32))), .val (.int (0 : Int32))]) rfl k) ?_
                      have c159 := (own_sta_keep (own_sta_keep c58 K59 all0) K76 (allS (own_ns_exa c75) all0))
                      have c160 := ((c60.keep K59).keep K76)
                      have c161 := ((c61.keep K59 nin0 all0).keep K76 (ninS ne_s107_b29 nin0) (allS na76_b29 all0))
                      have c162 := ((c62.keep K59 nin0 all0).keep K76 (ninS ne_s112_b29 nin0) (allS na76_b29 all0))
                      have c163 := ((c63.keep K59 nin0 all0).keep K76 (ninS ne_s117_b29 nin0) (allS na76_b29 all0))
                      have c164 := ((c64.keep K59 nin0 all0).keep K76 (ninS ne_s122_b29 nin0) (allS na76_b29 all0))
                      have c165 := ((((((Fld.ext E29 f28_1).keep K35 nin0).keep K42 nin0).keep K50 nin0).keep K59 nin0).keep K76 (ninS ne_b5_b29 nin0))
                      have c166 := ((((((Fld.ext E29 f28_2).keep K35 nin0).keep K42 nin0).keep K50 nin0).keep K59 nin0).keep K76 (ninS ne_b5_b29 nin0))
                      have c167 := ((((((Fld.ext E29 f28_3).keep K35 nin0).keep K42 nin0).keep K50 nin0).keep K59 nin0).keep K76 (ninS ne_b5_b29 nin0))
                      have c168 := ((((((Fld.ext E29 f28_4).keep K35 nin0).keep K42 nin0).keep K50 nin0).keep K59 nin0).keep K76 (ninS ne_b5_b29 nin0))
                      have c169 := (c68.keep K76 (ninS (Ne.symm ne_b29_s136) nin0) (allS na76_b29 all0))
                      have c170 := (c69.keep K76 (ninS (Ne.symm ne_b29_s141) nin0) (allS na76_b29 all0))
                      have c171 := (c70.keep K76 (ninS (Ne.symm ne_b29_s146) nin0) (allS na76_b29 all0))
                      have c172 := (f59_0.keep K76 (ninS (Ne.symm ne_b29_s151) nin0) (allS na76_b29 all0))
                      exact j284  T112 T76.heap _ X112 e112 N112 Z76 C76 R76 hk76 c159 c160 c161 c162 c163 c164 c165 c166 c167 c168 f76_0 c169 c170 c171 c172 f76_1 f76_2 f76_3 f76_4 (0 : Int32) (by simp [own_exp, hc235, hc248])
                  · refine Done.st (B := T110.setTop (mkF m 281 #[.val (.long x0), .second, .val (.long x1), .second, .val (.long x2), .second, .val (.long x3), .second, .val (.int x4), .val (.int x5), .val (.int ia1), .val (.int io1), .val (.int ie1), .val (.int iu1), .val (.int ia2), .val (.int io2), .val (.int ie2), .val (.int iu2), .val (.ref b5), .val (.ref b29), .val (.int (x5 &&& (7 : Int32))), .unset] [])) (fun _ k => XS.icmpYes X110.here hx rfl (pc0 := 235) (pc' := 281) rfl (hb hby at_235) rfl (feq hc235).2 (by decide) (by decide) k) ?_
                    refine Done.st (B := T110.setTop (mkF m 282 #[.val (.long x0), .second, .val (.long x1), .second, .val (.long x2), .second, .val (.long x3), .second, .val (.int x4), .val (.int x5), .val (.int ia1), .val (.int io1), .val (.int ie1), .val (.int iu1), .val (.int ia2), .val (.int io2), .val (.int ie2), .val (.int iu2), .val (.ref b5), .val (.ref b29), .val (.int (x5 &&& (7 : Int32))), .unset] [(.int (0 : Int32))])) (fun _ k => XS.iconst X110.here hx rfl (hb hby at_281) k) ?_
                    refine Done.st (B := T110.setTop (mkF m 284 #[.val (.long x0), .second, .val (.long x1), .second, .val (.long x2), .second, .val (.long x3), .second, .val (.int x4), .val (.int x5), .val (.int ia1), .val (.int io1), .val (.int ie1), .val (.int iu1), .val (.int ia2), .val (.int io2), .val (.int ie2), .val (.int iu2), .val (.ref b5), .val (.ref b29), .val (.int (x5 &&& (7 : Int32))), .val (.int (0 : Int32))] [])) (fun _ k => XS.istore X110.here hx rfl (hb hby at_282) rfl (l' := #[.val (.long x0), .second, .val (.long x1), .second, .val (.long x2), .second, .val (.long x3), .second, .val (.int x4), .val (.int x5), .val (.int ia1), .val (.int io1), .val (.int ie1), .val (.int iu1), .val (.int ia2), .val (.int io2), .val (.int ie2), .val (.int iu2), .val (.ref b5), .val (.ref b29), .val (.int (x5 &&& (7 : Int32))), .val (.int (0 : Int32))]) rfl k) ?_
                    have c173 := (own_sta_keep (own_sta_keep c58 K59 all0) K76 (allS (own_ns_exa c75) all0))
                    have c174 := ((c60.keep K59).keep K76)
                    have c175 := ((c61.keep K59 nin0 all0).keep K76 (ninS ne_s107_b29 nin0) (allS na76_b29 all0))
                    have c176 := ((c62.keep K59 nin0 all0).keep K76 (ninS ne_s112_b29 nin0) (allS na76_b29 all0))
                    have c177 := ((c63.keep K59 nin0 all0).keep K76 (ninS ne_s117_b29 nin0) (allS na76_b29 all0))
                    have c178 := ((c64.keep K59 nin0 all0).keep K76 (ninS ne_s122_b29 nin0) (allS na76_b29 all0))
                    have c179 := ((((((Fld.ext E29 f28_1).keep K35 nin0).keep K42 nin0).keep K50 nin0).keep K59 nin0).keep K76 (ninS ne_b5_b29 nin0))
                    have c180 := ((((((Fld.ext E29 f28_2).keep K35 nin0).keep K42 nin0).keep K50 nin0).keep K59 nin0).keep K76 (ninS ne_b5_b29 nin0))
                    have c181 := ((((((Fld.ext E29 f28_3).keep K35 nin0).keep K42 nin0).keep K50 nin0).keep K59 nin0).keep K76 (ninS ne_b5_b29 nin0))
                    have c182 := ((((((Fld.ext E29 f28_4).keep K35 nin0).keep K42 nin0).keep K50 nin0).keep K59 nin0).keep K76 (ninS ne_b5_b29 nin0))
                    have c183 := (c68.keep K76 (ninS (Ne.symm ne_b29_s136) nin0) (allS na76_b29 all0))
                    have c184 := (c69.keep K76 (ninS (Ne.symm ne_b29_s141) nin0) (allS na76_b29 all0))
                    have c185 := (c70.keep K76 (ninS (Ne.symm ne_b29_s146) nin0) (allS na76_b29 all0))
                    have c186 := (f59_0.keep K76 (ninS (Ne.symm ne_b29_s151) nin0) (allS na76_b29 all0))
                    exact j284  T110 T76.heap _ X110 e110 N110 Z76 C76 R76 hk76 c173 c174 c175 c176 c177 c178 c179 c180 c181 c182 f76_0 c183 c184 c185 c186 f76_1 f76_2 f76_3 f76_4 (0 : Int32) (by simp [own_exp, hc235])
          refine Done.st (B := Tj81.setTop (mkF m 83 #[.val (.long x0), .second, .val (.long x1), .second, .val (.long x2), .second, .val (.long x3), .second, .val (.int x4), .val (.int x5), .val (.int ia1), .val (.int io1), .val (.int ie1), .val (.int iu1), .val (.int ia2), .val (.int io2), .val (.int ie2), .unset, .unset, .unset, .unset, .unset] [(.int x4)])) (fun _ k => XS.iload Xj81.here hx rfl (hb hby at_81) rfl k) ?_
          refine Done.st (B := Tj81.setTop (mkF m 85 #[.val (.long x0), .second, .val (.long x1), .second, .val (.long x2), .second, .val (.long x3), .second, .val (.int x4), .val (.int x5), .val (.int ia1), .val (.int io1), .val (.int ie1), .val (.int iu1), .val (.int ia2), .val (.int io2), .val (.int ie2), .unset, .unset, .unset, .unset, .unset] [(.int (8 : Int32)), (.int x4)])) (fun _ k => XS.bipush Xj81.here hx rfl (hb hby at_83) k) ?_
          refine Done.st (B := Tj81.setTop (mkF m 86 #[.val (.long x0), .second, .val (.long x1), .second, .val (.long x2), .second, .val (.long x3), .second, .val (.int x4), .val (.int x5), .val (.int ia1), .val (.int io1), .val (.int ie1), .val (.int iu1), .val (.int ia2), .val (.int io2), .val (.int ie2), .unset, .unset, .unset, .unset, .unset] [(.int (x4 &&& (8 : Int32)))])) (fun _ k => XS.iand Xj81.here hx rfl (hb hby at_85) rfl k) ?_
          by_cases hc86 : (x4 &&& (8 : Int32)) = (0 : Int32)
          · refine Done.st (B := Tj81.setTop (mkF m 94 #[.val (.long x0), .second, .val (.long x1), .second, .val (.long x2), .second, .val (.long x3), .second, .val (.int x4), .val (.int x5), .val (.int ia1), .val (.int io1), .val (.int ie1), .val (.int iu1), .val (.int ia2), .val (.int io2), .val (.int ie2), .unset, .unset, .unset, .unset, .unset] [])) (fun _ k => XS.ifYes Xj81.here hx rfl (pc0 := 86) (pc' := 94) rfl (hb hby at_86) rfl ((if0 _ _).trans (teq hc86).1) (by decide) (by decide) k) ?_
            refine Done.st (B := Tj81.setTop (mkF m 96 #[.val (.long x0), .second, .val (.long x1), .second, .val (.long x2), .second, .val (.long x3), .second, .val (.int x4), .val (.int x5), .val (.int ia1), .val (.int io1), .val (.int ie1), .val (.int iu1), .val (.int ia2), .val (.int io2), .val (.int ie2), .unset, .unset, .unset, .unset, .unset] [(.long x3)])) (fun _ k => XS.lload Xj81.here hx rfl (hb hby at_94) rfl k) ?_
            obtain ⟨_, _, ⟨T187, L187, k187, n187⟩, -, X187, ⟨Lc187, hQ187, l187, y187, z187⟩, st187⟩ := Jvm.LawKit.callS Xj81 hx (y := (⟨"com/example/nameward/nameward/model/ClaimsRecordEqualsPinLaw", "lo", "(J)I"⟩ : MethodName)) hown (mvT hZ (hw _ (List.mem_of_getElem? (i := 4) rfl))) (mvT hZ (hw _ (List.mem_of_getElem? (i := 5) rfl))) (mvT hZ (hw _ (List.mem_of_getElem? (i := 2) rfl))) (mvT hZ (hw _ (List.mem_of_getElem? (i := 6) rfl))) (by decide) (backOf (W := 0) (rmlo l Z a0 hw [] x3 hj81 n0 Zj81) hZ (hw _ (List.mem_of_getElem? (i := 6) rfl)) (hw _ (List.mem_of_getElem? (i := 2) rfl)) (by decide) (by decide)) (g := (mkF m 96 #[.val (.long x0), .second, .val (.long x1), .second, .val (.long x2), .second, .val (.long x3), .second, .val (.int x4), .val (.int x5), .val (.int ia1), .val (.int io1), .val (.int ie1), .val (.int iu1), .val (.int ia2), .val (.int io2), .val (.int ie2), .unset, .unset, .unset, .unset, .unset] [(.long x3)])) rfl (by rw [hml]; rfl) (argsL := [(.long x3)]) (rest := []) (lenOf pd_8 rfl) rfl (by show 2 * 0 + _ ≤ _; exact Nat.le_of_eq rfl) (hb hby at_96) (fun _ _ => ⟨rfl, ej81, (by decide : 0 + 0 ≤ _), (by decide : 0 + 0 ≤ _)⟩)
            dsimp only [Pt.U, Pt.locs, Pt.cells, Pt.slots] at X187 l187 y187 z187 st187 hQ187
            subst l187 y187 z187
            obtain ⟨rfl, N187q, e187⟩ := hQ187
            have N187 := Fr.app Nj81 N187q
            refine Done.st (B := T187.setTop (mkF m 99 #[.val (.long x0), .second, .val (.long x1), .second, .val (.long x2), .second, .val (.long x3), .second, .val (.int x4), .val (.int x5), .val (.int ia1), .val (.int io1), .val (.int ie1), .val (.int iu1), .val (.int ia2), .val (.int io2), .val (.int ie2), .unset, .unset, .unset, .unset, .unset] [(.int (x3.toInt32))])) (fun _ k => st187 _ k) ?_
            refine Done.st (B := T187.setTop (mkF m 101 #[.val (.long x0), .second, .val (.long x1), .second, .val (.long x2), .second, .val (.long x3), .second, .val (.int x4), .val (.int x5), .val (.int ia1), .val (.int io1), .val (.int ie1), .val (.int iu1), .val (.int ia2), .val (.int io2), .val (.int ie2), .val (.int (x3.toInt32)), .unset, .unset, .unset, .unset] [])) (fun _ k => XS.istore X187.here hx rfl (hb hby at_99) rfl (l' := #[.val (.long x0), .second, .val (.long x1), .second, .val (.long x2), .second, .val (.long x3), .second, .val (.int x4), .val (.int x5), .val (.int ia1), .val (.int io1), .val (.int ie1), .val (.int iu1), .val (.int ia2), .val (.int io2), .val (.int ie2), .val (.int (x3.toInt32)), .unset, .unset, .unset, .unset]) rfl k) ?_
            exact j101  T187 hj81 _ X187 e187 N187 Zj81 Cj81 Rj81 hkj81 fj81_0 (x3.toInt32) 
          · refine Done.st (B := Tj81.setTop (mkF m 89 #[.val (.long x0), .second, .val (.long x1), .second, .val (.long x2), .second, .val (.long x3), .second, .val (.int x4), .val (.int x5), .val (.int ia1), .val (.int io1), .val (.int ie1), .val (.int iu1), .val (.int ia2), .val (.int io2), .val (.int ie2), .unset, .unset, .unset, .unset, .unset] [])) (fun _ k => XS.ifNo Xj81.here hx rfl (hb hby at_86) rfl ((if0 _ _).trans (feq hc86).1) k) ?_
            refine Done.st (B := Tj81.setTop (mkF m 91 #[.val (.long x0), .second, .val (.long x1), .second, .val (.long x2), .second, .val (.long x3), .second, .val (.int x4), .val (.int x5), .val (.int ia1), .val (.int io1), .val (.int ie1), .val (.int iu1), .val (.int ia2), .val (.int io2), .val (.int ie2), .unset, .unset, .unset, .unset, .unset] [(.int iu1)])) (fun _ k => XS.iload Xj81.here hx rfl (hb hby at_89) rfl k) ?_
            refine Done.st (B := Tj81.setTop (mkF m 99 #[.val (.long x0), .second, .val (.long x1), .second, .val (.long x2), .second, .val (.long x3), .second, .val (.int x4), .val (.int x5), .val (.int ia1), .val (.int io1), .val (.int ie1), .val (.int iu1), .val (.int ia2), .val (.int io2), .val (.int ie2), .unset, .unset, .unset, .unset, .unset] [(.int iu1)])) (fun _ k => XS.goto Xj81.here hx rfl (pc0 := 91) (pc' := 99) rfl (hb hby at_91) (by decide) (by decide) k) ?_
            refine Done.st (B := Tj81.setTop (mkF m 101 #[.val (.long x0), .second, .val (.long x1), .second, .val (.long x2), .second, .val (.long x3), .second, .val (.int x4), .val (.int x5), .val (.int ia1), .val (.int io1), .val (.int ie1), .val (.int iu1), .val (.int ia2), .val (.int io2), .val (.int ie2), .val (.int iu1), .unset, .unset, .unset, .unset] [])) (fun _ k => XS.istore Xj81.here hx rfl (hb hby at_99) rfl (l' := #[.val (.long x0), .second, .val (.long x1), .second, .val (.long x2), .second, .val (.long x3), .second, .val (.int x4), .val (.int x5), .val (.int ia1), .val (.int io1), .val (.int ie1), .val (.int iu1), .val (.int ia2), .val (.int io2), .val (.int ie2), .val (.int iu1), .unset, .unset, .unset, .unset]) rfl k) ?_
            exact j101  Tj81 hj81 _ Xj81 ej81 Nj81 Zj81 Cj81 Rj81 hkj81 fj81_0 iu1 
        refine Done.st (B := Tj62.setTop (mkF m 64 #[.val (.long x0), .second, .val (.long x1), .second, .val (.long x2), .second, .val (.long x3), .second, .val (.int x4), .val (.int x5), .val (.int ia1), .val (.int io1), .val (.int ie1), .val (.int iu1), .val (.int ia2), .val (.int io2), .unset, .unset, .unset, .unset, .unset, .unset] [(.int x4)])) (fun _ k => XS.iload Xj62.here hx rfl (hb hby at_62) rfl k) ?_
        refine Done.st (B := Tj62.setTop (mkF m 65 #[.val (.long x0), .second, .val (.long x1), .second, .val (.long x2), .second, .val (.long x3), .second, .val (.int x4), .val (.int x5), .val (.int ia1), .val (.int io1), .val (.int ie1), .val (.int iu1), .val (.int ia2), .val (.int io2), .unset, .unset, .unset, .unset, .unset, .unset] [(.int (4 : Int32)), (.int x4)])) (fun _ k => XS.iconst Xj62.here hx rfl (hb hby at_64) k) ?_
        refine Done.st (B := Tj62.setTop (mkF m 66 #[.val (.long x0), .second, .val (.long x1), .second, .val (.long x2), .second, .val (.long x3), .second, .val (.int x4), .val (.int x5), .val (.int ia1), .val (.int io1), .val (.int ie1), .val (.int iu1), .val (.int ia2), .val (.int io2), .unset, .unset, .unset, .unset, .unset, .unset] [(.int (x4 &&& (4 : Int32)))])) (fun _ k => XS.iand Xj62.here hx rfl (hb hby at_65) rfl k) ?_
        by_cases hc66 : (x4 &&& (4 : Int32)) = (0 : Int32)
        · refine Done.st (B := Tj62.setTop (mkF m 74 #[.val (.long x0), .second, .val (.long x1), .second, .val (.long x2), .second, .val (.long x3), .second, .val (.int x4), .val (.int x5), .val (.int ia1), .val (.int io1), .val (.int ie1), .val (.int iu1), .val (.int ia2), .val (.int io2), .unset, .unset, .unset, .unset, .unset, .unset] [])) (fun _ k => XS.ifYes Xj62.here hx rfl (pc0 := 66) (pc' := 74) rfl (hb hby at_66) rfl ((if0 _ _).trans (teq hc66).1) (by decide) (by decide) k) ?_
          refine Done.st (B := Tj62.setTop (mkF m 76 #[.val (.long x0), .second, .val (.long x1), .second, .val (.long x2), .second, .val (.long x3), .second, .val (.int x4), .val (.int x5), .val (.int ia1), .val (.int io1), .val (.int ie1), .val (.int iu1), .val (.int ia2), .val (.int io2), .unset, .unset, .unset, .unset, .unset, .unset] [(.long x3)])) (fun _ k => XS.lload Xj62.here hx rfl (hb hby at_74) rfl k) ?_
          obtain ⟨_, _, ⟨T188, L188, k188, n188⟩, -, X188, ⟨Lc188, hQ188, l188, y188, z188⟩, st188⟩ := Jvm.LawKit.callS Xj62 hx (y := (⟨"com/example/nameward/nameward/model/ClaimsRecordEqualsPinLaw", "hi", "(J)I"⟩ : MethodName)) hown (mvT hZ (hw _ (List.mem_of_getElem? (i := 0) rfl))) (mvT hZ (hw _ (List.mem_of_getElem? (i := 1) rfl))) (mvT hZ (hw _ (List.mem_of_getElem? (i := 2) rfl))) (mvT hZ (hw _ (List.mem_of_getElem? (i := 3) rfl))) (by decide) (backOf (W := 0) (rmhi l Z a0 hw [] x3 hj62 n0 Zj62) hZ (hw _ (List.mem_of_getElem? (i := 3) rfl)) (hw _ (List.mem_of_getElem? (i := 2) rfl)) (by decide) (by decide)) (g := (mkF m 76 #[.val (.long x0), .second, .val (.long x1), .second, .val (.long x2), .second, .val (.long x3), .second, .val (.int x4), .val (.int x5), .val (.int ia1), .val (.int io1), .val (.int ie1), .val (.int iu1), .val (.int ia2), .val (.int io2), .unset, .unset, .unset, .unset, .unset, .unset] [(.long x3)])) rfl (by rw [hml]; rfl) (argsL := [(.long x3)]) (rest := []) (lenOf pd_8 rfl) rfl (by show 2 * 0 + _ ≤ _; exact Nat.le_of_eq rfl) (hb hby at_76) (fun _ _ => ⟨rfl, ej62, (by decide : 0 + 0 ≤ _), (by decide : 0 + 0 ≤ _)⟩)
          dsimp only [Pt.U, Pt.locs, Pt.cells, Pt.slots] at X188 l188 y188 z188 st188 hQ188
          subst l188 y188 z188
          obtain ⟨rfl, N188q, e188⟩ := hQ188
          have N188 := Fr.app Nj62 N188q
          refine Done.st (B := T188.setTop (mkF m 79 #[.val (.long x0), .second, .val (.long x1), .second, .val (.long x2), .second, .val (.long x3), .second, .val (.int x4), .val (.int x5), .val (.int ia1), .val (.int io1), .val (.int ie1), .val (.int iu1), .val (.int ia2), .val (.int io2), .unset, .unset, .unset, .unset, .unset, .unset] [(.int (((x3.toUInt64 >>> ((32 : Int32) &&& 0x3f).toInt64.toUInt64).toInt64).toInt32))])) (fun _ k => st188 _ k) ?_
          refine Done.st (B := T188.setTop (mkF m 81 #[.val (.long x0), .second, .val (.long x1), .second, .val (.long x2), .second, .val (.long x3), .second, .val (.int x4), .val (.int x5), .val (.int ia1), .val (.int io1), .val (.int ie1), .val (.int iu1), .val (.int ia2), .val (.int io2), .val (.int (((x3.toUInt64 >>> ((32 : Int32) &&& 0x3f).toInt64.toUInt64).toInt64).toInt32)), .unset, .unset, .unset, .unset, .unset] [])) (fun _ k => XS.istore X188.here hx rfl (hb hby at_79) rfl (l' := #[.val (.long x0), .second, .val (.long x1), .second, .val (.long x2), .second, .val (.long x3), .second, .val (.int x4), .val (.int x5), .val (.int ia1), .val (.int io1), .val (.int ie1), .val (.int iu1), .val (.int ia2), .val (.int io2), .val (.int (((x3.toUInt64 >>> ((32 : Int32) &&& 0x3f).toInt64.toUInt64).toInt64).toInt32)), .unset, .unset, .unset, .unset, .unset]) rfl k) ?_
          exact j81  T188 hj62 _ X188 e188 N188 Zj62 Cj62 Rj62 hkj62 fj62_0 (((x3.toUInt64 >>> ((32 : Int32) &&& 0x3f).toInt64.toUInt64).toInt64).toInt32) 
        · refine Done.st (B := Tj62.setTop (mkF m 69 #[.val (.long x0), .second, .val (.long x1), .second, .val (.long x2), .second, .val (.long x3), .second, .val (.int x4), .val (.int x5), .val (.int ia1), .val (.int io1), .val (.int ie1), .val (.int iu1), .val (.int ia2), .val (.int io2), .unset, .unset, .unset, .unset, .unset, .unset] [])) (fun _ k => XS.ifNo Xj62.here hx rfl (hb hby at_66) rfl ((if0 _ _).trans (feq hc66).1) k) ?_
          refine Done.st (B := Tj62.setTop (mkF m 71 #[.val (.long x0), .second, .val (.long x1), .second, .val (.long x2), .second, .val (.long x3), .second, .val (.int x4), .val (.int x5), .val (.int ia1), .val (.int io1), .val (.int ie1), .val (.int iu1), .val (.int ia2), .val (.int io2), .unset, .unset, .unset, .unset, .unset, .unset] [(.int ie1)])) (fun _ k => XS.iload Xj62.here hx rfl (hb hby at_69) rfl k) ?_
          refine Done.st (B := Tj62.setTop (mkF m 79 #[.val (.long x0), .second, .val (.long x1), .second, .val (.long x2), .second, .val (.long x3), .second, .val (.int x4), .val (.int x5), .val (.int ia1), .val (.int io1), .val (.int ie1), .val (.int iu1), .val (.int ia2), .val (.int io2), .unset, .unset, .unset, .unset, .unset, .unset] [(.int ie1)])) (fun _ k => XS.goto Xj62.here hx rfl (pc0 := 71) (pc' := 79) rfl (hb hby at_71) (by decide) (by decide) k) ?_
          refine Done.st (B := Tj62.setTop (mkF m 81 #[.val (.long x0), .second, .val (.long x1), .second, .val (.long x2), .second, .val (.long x3), .second, .val (.int x4), .val (.int x5), .val (.int ia1), .val (.int io1), .val (.int ie1), .val (.int iu1), .val (.int ia2), .val (.int io2), .val (.int ie1), .unset, .unset, .unset, .unset, .unset] [])) (fun _ k => XS.istore Xj62.here hx rfl (hb hby at_79) rfl (l' := #[.val (.long x0), .second, .val (.long x1), .second, .val (.long x2), .second, .val (.long x3), .second, .val (.int x4), .val (.int x5), .val (.int ia1), .val (.int io1), .val (.int ie1), .val (.int iu1), .val (.int ia2), .val (.int io2), .val (.int ie1), .unset, .unset, .unset, .unset, .unset]) rfl k) ?_
          exact j81  Tj62 hj62 _ Xj62 ej62 Nj62 Zj62 Cj62 Rj62 hkj62 fj62_0 ie1 
      refine Done.st (B := Tj43.setTop (mkF m 45 #[.val (.long x0), .second, .val (.long x1), .second, .val (.long x2), .second, .val (.long x3), .second, .val (.int x4), .val (.int x5), .val (.int ia1), .val (.int io1), .val (.int ie1), .val (.int iu1), .val (.int ia2), .unset, .unset, .unset, .unset, .unset, .unset, .unset] [(.int x4)])) (fun _ k => XS.iload Xj43.here hx rfl (hb hby at_43) rfl k) ?_
      refine Done.st (B := Tj43.setTop (mkF m 46 #[.val (.long x0), .second, .val (.long x1), .second, .val (.long x2), .second, .val (.long x3), .second, .val (.int x4), .val (.int x5), .val (.int ia1), .val (.int io1), .val (.int ie1), .val (.int iu1), .val (.int ia2), .unset, .unset, .unset, .unset, .unset, .unset, .unset] [(.int (2 : Int32)), (.int x4)])) (fun _ k => XS.iconst Xj43.here hx rfl (hb hby at_45) k) ?_
      refine Done.st (B := Tj43.setTop (mkF m 47 #[.val (.long x0), .second, .val (.long x1), .second, .val (.long x2), .second, .val (.long x3), .second, .val (.int x4), .val (.int x5), .val (.int ia1), .val (.int io1), .val (.int ie1), .val (.int iu1), .val (.int ia2), .unset, .unset, .unset, .unset, .unset, .unset, .unset] [(.int (x4 &&& (2 : Int32)))])) (fun _ k => XS.iand Xj43.here hx rfl (hb hby at_46) rfl k) ?_
      by_cases hc47 : (x4 &&& (2 : Int32)) = (0 : Int32)
      · refine Done.st (B := Tj43.setTop (mkF m 55 #[.val (.long x0), .second, .val (.long x1), .second, .val (.long x2), .second, .val (.long x3), .second, .val (.int x4), .val (.int x5), .val (.int ia1), .val (.int io1), .val (.int ie1), .val (.int iu1), .val (.int ia2), .unset, .unset, .unset, .unset, .unset, .unset, .unset] [])) (fun _ k => XS.ifYes Xj43.here hx rfl (pc0 := 47) (pc' := 55) rfl (hb hby at_47) rfl ((if0 _ _).trans (teq hc47).1) (by decide) (by decide) k) ?_
        refine Done.st (B := Tj43.setTop (mkF m 57 #[.val (.long x0), .second, .val (.long x1), .second, .val (.long x2), .second, .val (.long x3), .second, .val (.int x4), .val (.int x5), .val (.int ia1), .val (.int io1), .val (.int ie1), .val (.int iu1), .val (.int ia2), .unset, .unset, .unset, .unset, .unset, .unset, .unset] [(.long x2)])) (fun _ k => XS.lload Xj43.here hx rfl (hb hby at_55) rfl k) ?_
        obtain ⟨_, _, ⟨T189, L189, k189, n189⟩, -, X189, ⟨Lc189, hQ189, l189, y189, z189⟩, st189⟩ := Jvm.LawKit.callS Xj43 hx (y := (⟨"com/example/nameward/nameward/model/ClaimsRecordEqualsPinLaw", "lo", "(J)I"⟩ : MethodName)) hown (mvT hZ (hw _ (List.mem_of_getElem? (i := 4) rfl))) (mvT hZ (hw _ (List.mem_of_getElem? (i := 5) rfl))) (mvT hZ (hw _ (List.mem_of_getElem? (i := 2) rfl))) (mvT hZ (hw _ (List.mem_of_getElem? (i := 6) rfl))) (by decide) (backOf (W := 0) (rmlo l Z a0 hw [] x2 hj43 n0 Zj43) hZ (hw _ (List.mem_of_getElem? (i := 6) rfl)) (hw _ (List.mem_of_getElem? (i := 2) rfl)) (by decide) (by decide)) (g := (mkF m 57 #[.val (.long x0), .second, .val (.long x1), .second, .val (.long x2), .second, .val (.long x3), .second, .val (.int x4), .val (.int x5), .val (.int ia1), .val (.int io1), .val (.int ie1), .val (.int iu1), .val (.int ia2), .unset, .unset, .unset, .unset, .unset, .unset, .unset] [(.long x2)])) rfl (by rw [hml]; rfl) (argsL := [(.long x2)]) (rest := []) (lenOf pd_8 rfl) rfl (by show 2 * 0 + _ ≤ _; exact Nat.le_of_eq rfl) (hb hby at_57) (fun _ _ => ⟨rfl, ej43, (by decide : 0 + 0 ≤ _), (by decide : 0 + 0 ≤ _)⟩)
        dsimp only [Pt.U, Pt.locs, Pt.cells, Pt.slots] at X189 l189 y189 z189 st189 hQ189
        subst l189 y189 z189
        obtain ⟨rfl, N189q, e189⟩ := hQ189
        have N189 := Fr.app Nj43 N189q
        refine Done.st (B := T189.setTop (mkF m 60 #[.val (.long x0), .second, .val (.long x1), .second, .val (.long x2), .second, .val (.long x3), .second, .val (.int x4), .val (.int x5), .val (.int ia1), .val (.int io1), .val (.int ie1), .val (.int iu1), .val (.int ia2), .unset, .unset, .unset, .unset, .unset, .unset, .unset] [(.int (x2.toInt32))])) (fun _ k => st189 _ k) ?_
        refine Done.st (B := T189.setTop (mkF m 62 #[.val (.long x0), .second, .val (.long x1), .second, .val (.long x2), .second, .val (.long x3), .second, .val (.int x4), .val (.int x5), .val (.int ia1), .val (.int io1), .val (.int ie1), .val (.int iu1), .val (.int ia2), .val (.int (x2.toInt32)), .unset, .unset, .unset, .unset, .unset, .unset] [])) (fun _ k => XS.istore X189.here hx rfl (hb hby at_60) rfl (l' := #[.val (.long x0), .second, .val (.long x1), .second, .val (.long x2), .second, .val (.long x3), .second, .val (.int x4), .val (.int x5), .val (.int ia1), .val (.int io1), .val (.int ie1), .val (.int iu1), .val (.int ia2), .val (.int (x2.toInt32)), .unset, .unset, .unset, .unset, .unset, .unset]) rfl k) ?_
        exact j62  T189 hj43 _ X189 e189 N189 Zj43 Cj43 Rj43 hkj43 fj43_0 (x2.toInt32) 
      · refine Done.st (B := Tj43.setTop (mkF m 50 #[.val (.long x0), .second, .val (.long x1), .second, .val (.long x2), .second, .val (.long x3), .second, .val (.int x4), .val (.int x5), .val (.int ia1), .val (.int io1), .val (.int ie1), .val (.int iu1), .val (.int ia2), .unset, .unset, .unset, .unset, .unset, .unset, .unset] [])) (fun _ k => XS.ifNo Xj43.here hx rfl (hb hby at_47) rfl ((if0 _ _).trans (feq hc47).1) k) ?_
        refine Done.st (B := Tj43.setTop (mkF m 52 #[.val (.long x0), .second, .val (.long x1), .second, .val (.long x2), .second, .val (.long x3), .second, .val (.int x4), .val (.int x5), .val (.int ia1), .val (.int io1), .val (.int ie1), .val (.int iu1), .val (.int ia2), .unset, .unset, .unset, .unset, .unset, .unset, .unset] [(.int io1)])) (fun _ k => XS.iload Xj43.here hx rfl (hb hby at_50) rfl k) ?_
        refine Done.st (B := Tj43.setTop (mkF m 60 #[.val (.long x0), .second, .val (.long x1), .second, .val (.long x2), .second, .val (.long x3), .second, .val (.int x4), .val (.int x5), .val (.int ia1), .val (.int io1), .val (.int ie1), .val (.int iu1), .val (.int ia2), .unset, .unset, .unset, .unset, .unset, .unset, .unset] [(.int io1)])) (fun _ k => XS.goto Xj43.here hx rfl (pc0 := 52) (pc' := 60) rfl (hb hby at_52) (by decide) (by decide) k) ?_
        refine Done.st (B := Tj43.setTop (mkF m 62 #[.val (.long x0), .second, .val (.long x1), .second, .val (.long x2), .second, .val (.long x3), .second, .val (.int x4), .val (.int x5), .val (.int ia1), .val (.int io1), .val (.int ie1), .val (.int iu1), .val (.int ia2), .val (.int io1), .unset, .unset, .unset, .unset, .unset, .unset] [])) (fun _ k => XS.istore Xj43.here hx rfl (hb hby at_60) rfl (l' := #[.val (.long x0), .second, .val (.long x1), .second, .val (.long x2), .second, .val (.long x3), .second, .val (.int x4), .val (.int x5), .val (.int ia1), .val (.int io1), .val (.int ie1), .val (.int iu1), .val (.int ia2), .val (.int io1), .unset, .unset, .unset, .unset, .unset, .unset]) rfl k) ?_
        exact j62  Tj43 hj43 _ Xj43 ej43 Nj43 Zj43 Cj43 Rj43 hkj43 fj43_0 io1 
    refine Done.st (B := Tj24.setTop (mkF m 26 #[.val (.long x0), .second, .val (.long x1), .second, .val (.long x2), .second, .val (.long x3), .second, .val (.int x4), .val (.int x5), .val (.int ia1), .val (.int io1), .val (.int ie1), .val (.int iu1), .unset, .unset, .unset, .unset, .unset, .unset, .unset, .unset] [(.int x4)])) (fun _ k => XS.iload Xj24.here hx rfl (hb hby at_24) rfl k) ?_
    refine Done.st (B := Tj24.setTop (mkF m 27 #[.val (.long x0), .second, .val (.long x1), .second, .val (.long x2), .second, .val (.long x3), .second, .val (.int x4), .val (.int x5), .val (.int ia1), .val (.int io1), .val (.int ie1), .val (.int iu1), .unset, .unset, .unset, .unset, .unset, .unset, .unset, .unset] [(.int (1 : Int32)), (.int x4)])) (fun _ k => XS.iconst Xj24.here hx rfl (hb hby at_26) k) ?_
    refine Done.st (B := Tj24.setTop (mkF m 28 #[.val (.long x0), .second, .val (.long x1), .second, .val (.long x2), .second, .val (.long x3), .second, .val (.int x4), .val (.int x5), .val (.int ia1), .val (.int io1), .val (.int ie1), .val (.int iu1), .unset, .unset, .unset, .unset, .unset, .unset, .unset, .unset] [(.int (x4 &&& (1 : Int32)))])) (fun _ k => XS.iand Xj24.here hx rfl (hb hby at_27) rfl k) ?_
    by_cases hc28 : (x4 &&& (1 : Int32)) = (0 : Int32)
    · refine Done.st (B := Tj24.setTop (mkF m 36 #[.val (.long x0), .second, .val (.long x1), .second, .val (.long x2), .second, .val (.long x3), .second, .val (.int x4), .val (.int x5), .val (.int ia1), .val (.int io1), .val (.int ie1), .val (.int iu1), .unset, .unset, .unset, .unset, .unset, .unset, .unset, .unset] [])) (fun _ k => XS.ifYes Xj24.here hx rfl (pc0 := 28) (pc' := 36) rfl (hb hby at_28) rfl ((if0 _ _).trans (teq hc28).1) (by decide) (by decide) k) ?_
      refine Done.st (B := Tj24.setTop (mkF m 38 #[.val (.long x0), .second, .val (.long x1), .second, .val (.long x2), .second, .val (.long x3), .second, .val (.int x4), .val (.int x5), .val (.int ia1), .val (.int io1), .val (.int ie1), .val (.int iu1), .unset, .unset, .unset, .unset, .unset, .unset, .unset, .unset] [(.long x2)])) (fun _ k => XS.lload Xj24.here hx rfl (hb hby at_36) rfl k) ?_
      obtain ⟨_, _, ⟨T190, L190, k190, n190⟩, -, X190, ⟨Lc190, hQ190, l190, y190, z190⟩, st190⟩ := Jvm.LawKit.callS Xj24 hx (y := (⟨"com/example/nameward/nameward/model/ClaimsRecordEqualsPinLaw", "hi", "(J)I"⟩ : MethodName)) hown (mvT hZ (hw _ (List.mem_of_getElem? (i := 0) rfl))) (mvT hZ (hw _ (List.mem_of_getElem? (i := 1) rfl))) (mvT hZ (hw _ (List.mem_of_getElem? (i := 2) rfl))) (mvT hZ (hw _ (List.mem_of_getElem? (i := 3) rfl))) (by decide) (backOf (W := 0) (rmhi l Z a0 hw [] x2 hj24 n0 Zj24) hZ (hw _ (List.mem_of_getElem? (i := 3) rfl)) (hw _ (List.mem_of_getElem? (i := 2) rfl)) (by decide) (by decide)) (g := (mkF m 38 #[.val (.long x0), .second, .val (.long x1), .second, .val (.long x2), .second, .val (.long x3), .second, .val (.int x4), .val (.int x5), .val (.int ia1), .val (.int io1), .val (.int ie1), .val (.int iu1), .unset, .unset, .unset, .unset, .unset, .unset, .unset, .unset] [(.long x2)])) rfl (by rw [hml]; rfl) (argsL := [(.long x2)]) (rest := []) (lenOf pd_8 rfl) rfl (by show 2 * 0 + _ ≤ _; exact Nat.le_of_eq rfl) (hb hby at_38) (fun _ _ => ⟨rfl, ej24, (by decide : 0 + 0 ≤ _), (by decide : 0 + 0 ≤ _)⟩)
      dsimp only [Pt.U, Pt.locs, Pt.cells, Pt.slots] at X190 l190 y190 z190 st190 hQ190
      subst l190 y190 z190
      obtain ⟨rfl, N190q, e190⟩ := hQ190
      have N190 := Fr.app Nj24 N190q
      refine Done.st (B := T190.setTop (mkF m 41 #[.val (.long x0), .second, .val (.long x1), .second, .val (.long x2), .second, .val (.long x3), .second, .val (.int x4), .val (.int x5), .val (.int ia1), .val (.int io1), .val (.int ie1), .val (.int iu1), .unset, .unset, .unset, .unset, .unset, .unset, .unset, .unset] [(.int (((x2.toUInt64 >>> ((32 : Int32) &&& 0x3f).toInt64.toUInt64).toInt64).toInt32))])) (fun _ k => st190 _ k) ?_
      refine Done.st (B := T190.setTop (mkF m 43 #[.val (.long x0), .second, .val (.long x1), .second, .val (.long x2), .second, .val (.long x3), .second, .val (.int x4), .val (.int x5), .val (.int ia1), .val (.int io1), .val (.int ie1), .val (.int iu1), .val (.int (((x2.toUInt64 >>> ((32 : Int32) &&& 0x3f).toInt64.toUInt64).toInt64).toInt32)), .unset, .unset, .unset, .unset, .unset, .unset, .unset] [])) (fun _ k => XS.istore X190.here hx rfl (hb hby at_41) rfl (l' := #[.val (.long x0), .second, .val (.long x1), .second, .val (.long x2), .second, .val (.long x3), .second, .val (.int x4), .val (.int x5), .val (.int ia1), .val (.int io1), .val (.int ie1), .val (.int iu1), .val (.int (((x2.toUInt64 >>> ((32 : Int32) &&& 0x3f).toInt64.toUInt64).toInt64).toInt32)), .unset, .unset, .unset, .unset, .unset, .unset, .unset]) rfl k) ?_
      exact j43  T190 hj24 _ X190 e190 N190 Zj24 Cj24 Rj24 hkj24 fj24_0 (((x2.toUInt64 >>> ((32 : Int32) &&& 0x3f).toInt64.toUInt64).toInt64).toInt32) 
    · refine Done.st (B := Tj24.setTop (mkF m 31 #[.val (.long x0), .second, .val (.long x1), .second, .val (.long x2), .second, .val (.long x3), .second, .val (.int x4), .val (.int x5), .val (.int ia1), .val (.int io1), .val (.int ie1), .val (.int iu1), .unset, .unset, .unset, .unset, .unset, .unset, .unset, .unset] [])) (fun _ k => XS.ifNo Xj24.here hx rfl (hb hby at_28) rfl ((if0 _ _).trans (feq hc28).1) k) ?_
      refine Done.st (B := Tj24.setTop (mkF m 33 #[.val (.long x0), .second, .val (.long x1), .second, .val (.long x2), .second, .val (.long x3), .second, .val (.int x4), .val (.int x5), .val (.int ia1), .val (.int io1), .val (.int ie1), .val (.int iu1), .unset, .unset, .unset, .unset, .unset, .unset, .unset, .unset] [(.int ia1)])) (fun _ k => XS.iload Xj24.here hx rfl (hb hby at_31) rfl k) ?_
      refine Done.st (B := Tj24.setTop (mkF m 41 #[.val (.long x0), .second, .val (.long x1), .second, .val (.long x2), .second, .val (.long x3), .second, .val (.int x4), .val (.int x5), .val (.int ia1), .val (.int io1), .val (.int ie1), .val (.int iu1), .unset, .unset, .unset, .unset, .unset, .unset, .unset, .unset] [(.int ia1)])) (fun _ k => XS.goto Xj24.here hx rfl (pc0 := 33) (pc' := 41) rfl (hb hby at_33) (by decide) (by decide) k) ?_
      refine Done.st (B := Tj24.setTop (mkF m 43 #[.val (.long x0), .second, .val (.long x1), .second, .val (.long x2), .second, .val (.long x3), .second, .val (.int x4), .val (.int x5), .val (.int ia1), .val (.int io1), .val (.int ie1), .val (.int iu1), .val (.int ia1), .unset, .unset, .unset, .unset, .unset, .unset, .unset] [])) (fun _ k => XS.istore Xj24.here hx rfl (hb hby at_41) rfl (l' := #[.val (.long x0), .second, .val (.long x1), .second, .val (.long x2), .second, .val (.long x3), .second, .val (.int x4), .val (.int x5), .val (.int ia1), .val (.int io1), .val (.int ie1), .val (.int iu1), .val (.int ia1), .unset, .unset, .unset, .unset, .unset, .unset, .unset]) rfl k) ?_
      exact j43  Tj24 hj24 _ Xj24 ej24 Nj24 Zj24 Cj24 Rj24 hkj24 fj24_0 ia1 
  refine Done.st (B := T4.setTop (mkF m 24 #[.val (.long x0), .second, .val (.long x1), .second, .val (.long x2), .second, .val (.long x3), .second, .val (.int x4), .val (.int x5), .val (.int (((x0.toUInt64 >>> ((32 : Int32) &&& 0x3f).toInt64.toUInt64).toInt64).toInt32)), .val (.int (x0.toInt32)), .val (.int (((x1.toUInt64 >>> ((32 : Int32) &&& 0x3f).toInt64.toUInt64).toInt64).toInt32)), .val (.int (x1.toInt32)), .unset, .unset, .unset, .unset, .unset, .unset, .unset, .unset] [])) (fun _ k => XS.istore X4.here hx rfl (hb hby at_22) rfl (l' := #[.val (.long x0), .second, .val (.long x1), .second, .val (.long x2), .second, .val (.long x3), .second, .val (.int x4), .val (.int x5), .val (.int (((x0.toUInt64 >>> ((32 : Int32) &&& 0x3f).toInt64.toUInt64).toInt64).toInt32)), .val (.int (x0.toInt32)), .val (.int (((x1.toUInt64 >>> ((32 : Int32) &&& 0x3f).toInt64.toUInt64).toInt64).toInt32)), .val (.int (x1.toInt32)), .unset, .unset, .unset, .unset, .unset, .unset, .unset, .unset]) rfl k) ?_
  exact j24  T4 h0 _ X4 e4 N4 Z0 hC0 R0 hk0 S_z (((x0.toUInt64 >>> ((32 : Int32) &&& 0x3f).toInt64.toUInt64).toInt64).toInt32) (x0.toInt32) (((x1.toUInt64 >>> ((32 : Int32) &&& 0x3f).toInt64.toUInt64).toInt64).toInt32) (x1.toInt32) 
set_option maxRecDepth 65536 in
set_option maxHeartbeats 40000000 in
theorem comes_1 {Post : Tables → Env → Array Value → State → Outcome → State → Prop} (hpost : ∀ tb e args s v u, (limb_1_1.after args s (.returned v) u = true ∧ limb_1_2.after args s (.returned v) u = true ∧ True) → ReturnedEndW s (.returned v) u (Jvm.fieldLocs frame_1_writes args s ++ Jvm.arrayLocs frame_1_arrays args s ++ Jvm.staticLocs frame_1_statics s) 72 1344 → Post tb e args s (.returned v) u) :
    ArmFor flags0 classFile x code maxLocals ret World_1 tables_1 room_1 Calls_1 rest_1 Pre_1 Post := by
  intro l hfl _ _ p e ha hc hk s m args below hf hA hF happ hP
  obtain ⟨hcalls, hrest, hpre⟩ := hP
  obtain ⟨-, -, -, hnamed, -, -, -, hat⟩ := (Spec.applies_iff hf).mp happ
  obtain ⟨hg, hn⟩ := and_e (Cond.before_iff.mp (show (Jvm.Cond.and given_1 narrow_1).before args s = true from hpre))
  obtain ⟨g1, g2⟩ := and_e hg
  obtain ⟨g3, g4⟩ := and_e g2
  obtain ⟨g5, g6⟩ := and_e g4
  obtain ⟨g7, g8⟩ := and_e g6
  obtain ⟨g9, g10⟩ := and_e g8
  obtain ⟨g11, g12⟩ := and_e g10
  obtain ⟨w0, w1, w2, w3, w4, w5, rfl⟩ : ∃ w0 w1 w2 w3 w4 w5 : Value, args = #[w0, w1, w2, w3, w4, w5] := by
    have hs : args.size = 6 := by simpa [Cond.value, given_1] using g1
    obtain ⟨L⟩ := args
    match L, hs with
    | [w0, w1, w2, w3, w4, w5], _ => exact ⟨w0, w1, w2, w3, w4, w5, rfl⟩
  have hw := fun d (hd : d ∈ tables_1) => atoms_spec (ws := Jvm.Cond.code x code maxLocals ret :: tables_1) hat d (List.mem_cons_of_mem _ hd)
  have hfit : Fit s := fun {y c} hc i hi => by
    obtain ⟨ha, rfl⟩ := Array.getElem?_eq_some_iff.mp hc
    have q := List.all_eq_true.mp ((Array.all_eq_true_iff_forall_mem.mp hF) _ (Array.getElem_mem ha)) i (List.mem_range.mpr hi)
    simpa [Array.getElem?_eq_getElem hi] using q
  obtain ⟨hsets, hown0⟩ := atoms_of _ (rest_1_c_eq ▸ (show rest_1_c.before _ s = true from hrest))
  have hr0 := Cond.before_iff.mp hown0
  obtain ⟨i0, ei0⟩ := isL_v g3
  obtain rfl : w0 = (.long i0) := Option.some.inj ei0
  obtain ⟨i1, ei1⟩ := isL_v g5
  obtain rfl : w1 = (.long i1) := Option.some.inj ei1
  obtain ⟨i2, ei2⟩ := isL_v g7
  obtain rfl : w2 = (.long i2) := Option.some.inj ei2
  obtain ⟨i3, ei3⟩ := isL_v g9
  obtain rfl : w3 = (.long i3) := Option.some.inj ei3
  obtain ⟨i4, ei4⟩ := is_v g11
  obtain rfl : w4 = (.int i4) := Option.some.inj ei4
  obtain ⟨i5, ei5⟩ := is_v g12
  obtain rfl : w5 = (.int i5) := Option.some.inj ei5
  obtain ⟨z, ev_z⟩ := is_v (Cond.before_iff.mp (hsets _ (List.mem_of_getElem? (i := 1) rfl)))
  have S_z := Sta.start ev_z (Or.inl (hsets _ (List.mem_of_getElem? (i := 0) rfl)))
  have hcz := hsets _ (List.mem_of_getElem? (i := 2) rfl)
  have hz : ¬ z = 0 := fun q => by
    have h := not_v (Cond.before_iff.mp hcz)
    rw [eq_i ev_z (Term.int_eval (0)) (by rw [q])] at h
    cases h
  have hEL : EW s _ own_EL := EW.cons (hw _ (List.mem_of_getElem? (i := 27) rfl)) (by decide) EW.nil
  have hC0 : CHv s own_EL s.vm s.heap := CHv.start hEL (fun q hq => hcalls.1 q hq) hcz (hw _ (List.mem_of_getElem? (i := 28) rfl)) (hw _ (List.mem_of_getElem? (i := 14) rfl))
  obtain ⟨n, o, h1, h2, h3, _, L, rfl, ⟨rfl, N⟩, -, hq⟩ := rm0 l s _ hw tables_1 i0 i1 i2 i3 i4 i5 z s.heap s.heap.size (Nat.le_refl _) S_z hz p e ha hc hk s m _ below hf ((Spec.applies_iff_loose hf).mp happ).1 ⟨rfl, State.Warmed39.refl s, rfl, hC0⟩ trivial
  refine ⟨n, _, h1, h2, h3, hpost _ _ _ _ _ _ ⟨Cond.after_iff.mpr rfl, Cond.after_iff.mpr (eq_i res_at (Term.int_eval (1)) rfl), trivial⟩ ⟨hq.1, hq.2.1, hq.2.2.1, (hq.2.2.2.sift fun y hy => Or.inr (N y hy)).mono (by decide) (by decide)⟩⟩
theorem main_1_1 : Claimed_1_1 := comes_1 fun _ _ _ _ _ _ h hF => ⟨h.1, hF⟩
theorem main_1_2 : Claimed_1_2 := comes_1 fun _ _ _ _ _ _ h hF => ⟨h.2.1, hF⟩
end Jvm.Pilot.@@N@@
namespace Jvm.Pilot.@@N@@
open Jvm Jvm.ClassFile Sem Op Lib Jvm.Free Jvm.Stand Jvm.Pilot.@@N@@.Jvm.D
/-! MADE BY PROGRAM (witnessworld.py) out of the Statement's table words and the real class files: 21 classes; the members and pool entries that the words name. The judged class is class 1, her method 5. -/
namespace start1
open Jvm.ClassFile
def u (s : String) : CpInfo := .utf8 (stringToUtf16 s)
/-- a pool by its gaps: so many unusable entries, then the entry; so many at the end -/
def gap : Nat → List CpInfo → List CpInfo
  | 0, r => r
  | n + 1, r => .unusable :: gap n r
def poolList (es : List (Nat × CpInfo)) (last : Nat) : List CpInfo := es.foldr (fun e r => gap e.1 (e.2 :: r)) (gap last [])
def pool (es : List (Nat × CpInfo)) (last : Nat) : Array CpInfo := ⟨poolList es last⟩
def fileOf (pool : Array CpInfo) (this : Nat) (attrs : Array Attribute := #[]) (ms : Array MethodInfo := #[]) (fl : Nat := 33) (sup : Nat := 0) (ifs : Array Nat := #[]) (fds : Array FieldInfo := #[]) : ClassFile where
  minorVersion := 0
  majorVersion := 65
  constantPool := pool
  accessFlags := fl
  thisClass := this
  superClass := sup
  interfaces := ifs
  fields := fds
  methods := ms
  attributes := attrs
def plain (name : String) (sup : Option ClassId) : Class where
  name := name
  kind := .ordinary
  loader := none
  accessFlags := 33
  super := sup
  interfaces := #[]
  cf := none
  fields := #[]
  methods := #[]
  instanceTypes := #[]
  staticTypes := #[]
  resolved := #[]
  callSites := []
  init := .initialized
  statics := none
  mirror := none

def pool0 : Array CpInfo := pool [(5, u "<init>"), (0, u "()V"), (1, .class_ 10), (1, u "java/lang/Object")] 113

def k0c0 : Code := { maxStack := 0, maxLocals := 1, code := object_method_1_code, exceptionTable := #[], attributes := #[] }
def k0m0 : Method := { name := "<init>", desc := "()V", sig := { parameters := [], returnType := none }, accessFlags := 1, code := some k0c0 }
/-- java/lang/Object -/
def k0 : Class := { plain "java/lang/Object" none with
  accessFlags := 33
  interfaces := #[]
  cf := some (fileOf pool0 8 #[] #[{ accessFlags := 1, nameIndex := 5, descriptorIndex := 6, attributes := #[] }] 33 0 #[] #[])
  fields := #[]
  methods := #[k0m0]
  instanceTypes := #[]
  staticTypes := #[]
  resolved := Array.replicate 124 none
  statics := none }

def pool1 : Array CpInfo := pool [(2, .class_ 4), (1, u "java/lang/Object"), (0, u "<init>"), (0, u "()V"), (0, .class_ 8), (0, u "java/lang/String"), (0, .methodref 7 10), (0, .nameAndType 5 11), (0, u "([C)V"), (0, .methodref 7 13), (0, .nameAndType 14 15), (0, u "valueOf"), (0, u "(C)Ljava/lang/String;"), (0, .methodref 17 18), (0, .class_ 19), (0, .nameAndType 20 21), (0, u "com/example/nameward/nameward/model/ClaimsRecordEqualsPinLaw"), (0, u "hi"), (0, u "(J)I"), (0, .methodref 17 23), (0, .nameAndType 24 21), (0, u "lo"), (0, .class_ 26), (0, u "com/example/nameward/nameward/model/ClaimsRecord"), (0, .methodref 17 28), (0, .nameAndType 29 30), (0, u "mk"), (0, u "(I)Ljava/lang/String;"), (0, .methodref 25 32), (0, .nameAndType 5 33), (0, u "(Ljava/lang/String;Ljava/lang/String;Ljava/lang/String;Ljava/lang/String;)V"), (0, .methodref 25 35), (0, .nameAndType 36 37), (0, u "equals"), (0, u "(Ljava/lang/Object;)Z"), (0, .methodref 17 39), (0, .nameAndType 40 41), (0, u "key"), (0, u "(I)I"), (3, u "law"), (0, u "(JJJJII)Z")] 2

def k1m0 : Method := { name := "<init>", desc := "()V", sig := { parameters := [], returnType := none }, accessFlags := 1, code := none }
def k1c1 : Code := { maxStack := 6, maxLocals := 5, code := method_2_code, exceptionTable := #[], attributes := #[] }
def k1m1 : Method := { name := "mk", desc := "(I)Ljava/lang/String;", sig := { parameters := [.int], returnType := some (.object "java/lang/String") }, accessFlags := 10, code := some k1c1 }
def k1c2 : Code := { maxStack := 3, maxLocals := 3, code := method_3_code, exceptionTable := #[], attributes := #[] }
def k1m2 : Method := { name := "key", desc := "(I)I", sig := { parameters := [.int], returnType := some .int }, accessFlags := 10, code := some k1c2 }
def k1c3 : Code := { maxStack := 3, maxLocals := 2, code := method_4_code, exceptionTable := #[], attributes := #[] }
def k1m3 : Method := { name := "hi", desc := "(J)I", sig := { parameters := [.long], returnType := some .int }, accessFlags := 10, code := some k1c3 }
def k1c4 : Code := { maxStack := 2, maxLocals := 2, code := method_5_code, exceptionTable := #[], attributes := #[] }
def k1m4 : Method := { name := "lo", desc := "(J)I", sig := { parameters := [.long], returnType := some .int }, accessFlags := 10, code := some k1c4 }
def k1c5 : Code := { maxStack := 6, maxLocals := 22, code := code, exceptionTable := #[], attributes := #[] }
def k1m5 : Method := { name := "law", desc := "(JJJJII)Z", sig := { parameters := [.long, .long, .long, .long, .int, .int], returnType := some .boolean }, accessFlags := 9, code := some k1c5 }
/-- com/example/nameward/nameward/model/ClaimsRecordEqualsPinLaw -/
def k1 : Class := { plain "com/example/nameward/nameward/model/ClaimsRecordEqualsPinLaw" (some 0) with
  accessFlags := 49
  interfaces := #[]
  cf := some (fileOf pool1 17 #[] #[{ accessFlags := 1, nameIndex := 5, descriptorIndex := 6, attributes := #[] }, { accessFlags := 10, nameIndex := 29, descriptorIndex := 30, attributes := #[] }, { accessFlags := 10, nameIndex := 40, descriptorIndex := 41, attributes := #[] }, { accessFlags := 10, nameIndex := 20, descriptorIndex := 21, attributes := #[] }, { accessFlags := 10, nameIndex := 24, descriptorIndex := 21, attributes := #[] }, { accessFlags := 9, nameIndex := 45, descriptorIndex := 46, attributes := #[] }] 49 2 #[] #[])
  fields := #[]
  methods := #[k1m0, k1m1, k1m2, k1m3, k1m4, k1m5]
  instanceTypes := #[]
  staticTypes := #[]
  resolved := Array.replicate 49 none
  statics := none }

def pool2 : Array CpInfo := pool [(1, .methodref 2 3), (0, .class_ 4), (0, .nameAndType 5 6), (0, u "java/lang/Object"), (0, u "<init>"), (0, u "()V"), (0, .methodref 8 9), (0, .class_ 10), (0, .nameAndType 11 12), (0, u "java/util/Objects"), (0, u "requireNonNull"), (0, u "(Ljava/lang/Object;)Ljava/lang/Object;"), (0, .class_ 14), (0, u "java/lang/String"), (0, .fieldref 16 17), (0, .class_ 18), (0, .nameAndType 19 20), (0, u "com/example/nameward/nameward/model/ClaimsRecord"), (0, u "aLabel"), (0, u "Ljava/lang/String;"), (0, .fieldref 16 22), (0, .nameAndType 23 20), (0, u "officialName"), (0, .fieldref 16 25), (0, .nameAndType 26 20), (0, u "englishName"), (0, .fieldref 16 28), (0, .nameAndType 29 20), (0, u "url"), (0, .methodref 13 31), (0, .nameAndType 32 33), (0, u "equals"), (0, u "(Ljava/lang/Object;)Z"), (12, u "(Ljava/lang/String;Ljava/lang/String;Ljava/lang/String;Ljava/lang/String;)V")] 9

def k2c0 : Code := { maxStack := 2, maxLocals := 5, code := prog_17_method_1_code, exceptionTable := #[], attributes := #[] }
def k2m0 : Method := { name := "<init>", desc := "(Ljava/lang/String;Ljava/lang/String;Ljava/lang/String;Ljava/lang/String;)V", sig := { parameters := [(.object "java/lang/String"), (.object "java/lang/String"), (.object "java/lang/String"), (.object "java/lang/String")], returnType := none }, accessFlags := 1, code := some k2c0 }
def k2c1 : Code := { maxStack := 2, maxLocals := 3, code := prog_17_method_6_code, exceptionTable := #[], attributes := #[] }
def k2m1 : Method := { name := "equals", desc := "(Ljava/lang/Object;)Z", sig := { parameters := [(.object "java/lang/Object")], returnType := some .boolean }, accessFlags := 1, code := some k2c1 }
/-- com/example/nameward/nameward/model/ClaimsRecord -/
def k2 : Class := { plain "com/example/nameward/nameward/model/ClaimsRecord" (some 0) with
  accessFlags := 49
  interfaces := #[]
  cf := some (fileOf pool2 16 #[] #[{ accessFlags := 1, nameIndex := 5, descriptorIndex := 46, attributes := #[] }, { accessFlags := 1, nameIndex := 32, descriptorIndex := 33, attributes := #[] }] 49 2 #[] #[{ accessFlags := 18, nameIndex := 19, descriptorIndex := 20, attributes := #[] }, { accessFlags := 18, nameIndex := 23, descriptorIndex := 20, attributes := #[] }, { accessFlags := 18, nameIndex := 26, descriptorIndex := 20, attributes := #[] }, { accessFlags := 18, nameIndex := 29, descriptorIndex := 20, attributes := #[] }])
  fields := #[{ name := "aLabel", type := (.object "java/lang/String"), accessFlags := 18, slot := 0, constantValue := 0 }, { name := "officialName", type := (.object "java/lang/String"), accessFlags := 18, slot := 1, constantValue := 0 }, { name := "englishName", type := (.object "java/lang/String"), accessFlags := 18, slot := 2, constantValue := 0 }, { name := "url", type := (.object "java/lang/String"), accessFlags := 18, slot := 3, constantValue := 0 }]
  methods := #[k2m0, k2m1]
  instanceTypes := #[(.object "java/lang/String"), (.object "java/lang/String"), (.object "java/lang/String"), (.object "java/lang/String")]
  staticTypes := #[]
  resolved := Array.replicate 56 none
  statics := none }

def pool3 : Array CpInfo := pool [(1, .class_ 2), (0, u "java/io/Serializable"), (0, .class_ 4), (0, u "java/lang/Object")] 2

/-- java/io/Serializable -/
def k3 : Class := { plain "java/io/Serializable" (some 0) with
  accessFlags := 1537
  interfaces := #[]
  cf := some (fileOf pool3 1 #[] #[] 1537 3 #[] #[])
  fields := #[]
  methods := #[]
  instanceTypes := #[]
  staticTypes := #[]
  resolved := Array.replicate 7 none
  statics := none }

def pool4 : Array CpInfo := pool [(1, .class_ 2), (0, u "java/lang/Comparable"), (0, .class_ 4), (0, u "java/lang/Object")] 7

/-- java/lang/Comparable -/
def k4 : Class := { plain "java/lang/Comparable" (some 0) with
  accessFlags := 1537
  interfaces := #[]
  cf := some (fileOf pool4 1 #[] #[] 1537 3 #[] #[])
  fields := #[]
  methods := #[]
  instanceTypes := #[]
  staticTypes := #[]
  resolved := Array.replicate 12 none
  statics := none }

def pool5 : Array CpInfo := pool [(2, .class_ 4), (1, u "java/lang/CharSequence"), (42, .class_ 48), (0, u "java/lang/CharSequence$1CodePointIterator"), (10, .class_ 60), (0, u "java/lang/CharSequence$1CharIterator"), (5, .class_ 67), (0, u "java/lang/Object")] 63

/-- java/lang/CharSequence -/
def k5 : Class := { plain "java/lang/CharSequence" (some 0) with
  accessFlags := 1537
  interfaces := #[]
  cf := some (fileOf pool5 2 #[.nestMembers #[47, 59]] #[] 1537 66 #[] #[])
  fields := #[]
  methods := #[]
  instanceTypes := #[]
  staticTypes := #[]
  resolved := Array.replicate 131 none
  statics := none }

def pool6 : Array CpInfo := pool [(1, .class_ 2), (0, u "java/lang/constant/Constable"), (0, .class_ 4), (0, u "java/lang/Object")] 6

/-- java/lang/constant/Constable -/
def k6 : Class := { plain "java/lang/constant/Constable" (some 0) with
  accessFlags := 1537
  interfaces := #[]
  cf := some (fileOf pool6 1 #[] #[] 1537 3 #[] #[])
  fields := #[]
  methods := #[]
  instanceTypes := #[]
  staticTypes := #[]
  resolved := Array.replicate 11 none
  statics := none }

def pool7 : Array CpInfo := pool [(1, .class_ 2), (0, u "java/lang/constant/ConstantDesc"), (0, .class_ 4), (0, u "java/lang/Object")] 32

/-- java/lang/constant/ConstantDesc -/
def k7 : Class := { plain "java/lang/constant/ConstantDesc" (some 0) with
  accessFlags := 1537
  interfaces := #[]
  cf := some (fileOf pool7 1 #[] #[] 1537 3 #[] #[])
  fields := #[]
  methods := #[]
  instanceTypes := #[]
  staticTypes := #[]
  resolved := Array.replicate 37 none
  statics := none }

def pool8 : Array CpInfo := pool [(1, .methodref 2 3), (0, .class_ 4), (0, .nameAndType 5 6), (0, u "java/lang/Object"), (0, u "<init>"), (0, u "()V"), (0, .string 8), (0, u ""), (0, .fieldref 10 11), (0, .class_ 12), (0, .nameAndType 13 14), (0, u "java/lang/String"), (0, u "value"), (0, u "[B"), (0, .fieldref 10 16), (0, .nameAndType 17 18), (0, u "coder"), (0, u "B"), (2, u "hash"), (0, u "I"), (2, u "hashIsZero"), (0, u "Z"), (0, .methodref 10 28), (0, .nameAndType 5 29), (0, u "([CIILjava/lang/Void;)V"), (8, .fieldref 10 39), (0, .nameAndType 40 26), (0, u "COMPACT_STRINGS"), (1, .class_ 44), (1, u "java/lang/StringUTF16"), (0, u "compress"), (1, .methodref 42 48), (0, .nameAndType 49 50), (0, u "coderFromArrayLen"), (0, u "([BI)B"), (2, u "toBytes"), (53, .class_ 109), (1, u "java/lang/StringLatin1"), (67, .methodref 42 178), (0, .nameAndType 45 179), (0, u "([CII)[B"), (29, .methodref 10 210), (0, .nameAndType 5 211), (0, u "([BB)V"), (157, u "(C)Z"), (171, .methodref 107 542), (0, .nameAndType 543 544), (0, u "equals"), (0, u "([B[B)Z"), (28, u "(Ljava/lang/Object;)Z"), (1, .class_ 576), (0, u "java/lang/CharSequence"), (22, u "CASE_INSENSITIVE_ORDER"), (0, u "Ljava/util/Comparator;"), (181, u "valueOf"), (0, u "(C)Ljava/lang/String;"), (226, u "([C)V"), (4, .methodref 107 1016), (0, .nameAndType 1017 369), (0, u "canEncode"), (0, .methodref 107 1019), (0, .nameAndType 53 1020), (0, u "(C)[B"), (80, u "serialPersistentFields"), (0, u "[Ljava/io/ObjectStreamField;"), (0, .class_ 1104), (0, u "java/lang/String$CaseInsensitiveComparator"), (1, .class_ 1107), (0, u "java/io/Serializable"), (0, .class_ 1109), (0, u "java/lang/Comparable"), (0, .class_ 1111), (0, u "java/lang/constant/Constable"), (0, .class_ 1113), (0, u "java/lang/constant/ConstantDesc"), (2, u "serialVersionUID"), (0, u "J"), (3, u "REPL"), (0, u "C"), (2, u "LATIN1"), (1, u "UTF16")] 323

def k8m0 : Method := { name := "<init>", desc := "()V", sig := { parameters := [], returnType := none }, accessFlags := 1, code := none }
def k8c1 : Code := { maxStack := 5, maxLocals := 2, code := jdk_42_method_3_code, exceptionTable := #[], attributes := #[] }
def k8m1 : Method := { name := "<init>", desc := "([C)V", sig := { parameters := [(.array .char)], returnType := none }, accessFlags := 1, code := some k8c1 }
def k8c2 : Code := { maxStack := 2, maxLocals := 3, code := jdk_42_method_66_code, exceptionTable := #[], attributes := #[] }
def k8m2 : Method := { name := "equals", desc := "(Ljava/lang/Object;)Z", sig := { parameters := [(.object "java/lang/Object")], returnType := some .boolean }, accessFlags := 1, code := some k8c2 }
def k8c3 : Code := { maxStack := 4, maxLocals := 1, code := jdk_42_method_139_code, exceptionTable := #[], attributes := #[] }
def k8m3 : Method := { name := "valueOf", desc := "(C)Ljava/lang/String;", sig := { parameters := [.char], returnType := some (.object "java/lang/String") }, accessFlags := 9, code := some k8c3 }
def k8c4 : Code := { maxStack := 4, maxLocals := 6, code := jdk_42_method_149_code, exceptionTable := #[], attributes := #[] }
def k8m4 : Method := { name := "<init>", desc := "([CIILjava/lang/Void;)V", sig := { parameters := [(.array .char), .int, .int, (.object "java/lang/Void")], returnType := none }, accessFlags := 2, code := some k8c4 }
def k8c5 : Code := { maxStack := 2, maxLocals := 3, code := jdk_42_method_151_code, exceptionTable := #[], attributes := #[] }
def k8m5 : Method := { name := "<init>", desc := "([BB)V", sig := { parameters := [(.array .byte), .byte], returnType := none }, accessFlags := 0, code := some k8c5 }
/-- java/lang/String -/
def k8 : Class := { plain "java/lang/String" (some 0) with
  accessFlags := 49
  interfaces := #[3, 4, 5, 6, 7]
  cf := some (fileOf pool8 10 #[.nestMembers #[1103]] #[{ accessFlags := 1, nameIndex := 5, descriptorIndex := 6, attributes := #[] }, { accessFlags := 1, nameIndex := 5, descriptorIndex := 1010, attributes := #[] }, { accessFlags := 1, nameIndex := 543, descriptorIndex := 573, attributes := #[] }, { accessFlags := 9, nameIndex := 782, descriptorIndex := 783, attributes := #[] }, { accessFlags := 2, nameIndex := 5, descriptorIndex := 29, attributes := #[] }, { accessFlags := 0, nameIndex := 5, descriptorIndex := 211, attributes := #[] }] 49 2 #[1106, 1108, 575, 1110, 1112] #[{ accessFlags := 18, nameIndex := 13, descriptorIndex := 14, attributes := #[] }, { accessFlags := 18, nameIndex := 17, descriptorIndex := 18, attributes := #[] }, { accessFlags := 2, nameIndex := 21, descriptorIndex := 22, attributes := #[] }, { accessFlags := 2, nameIndex := 25, descriptorIndex := 26, attributes := #[] }, { accessFlags := 26, nameIndex := 1116, descriptorIndex := 1117, attributes := #[] }, { accessFlags := 24, nameIndex := 40, descriptorIndex := 26, attributes := #[] }, { accessFlags := 26, nameIndex := 1101, descriptorIndex := 1102, attributes := #[] }, { accessFlags := 26, nameIndex := 1121, descriptorIndex := 1122, attributes := #[] }, { accessFlags := 25, nameIndex := 599, descriptorIndex := 600, attributes := #[] }, { accessFlags := 24, nameIndex := 1125, descriptorIndex := 18, attributes := #[] }, { accessFlags := 24, nameIndex := 1127, descriptorIndex := 18, attributes := #[] }])
  fields := #[{ name := "value", type := (.array .byte), accessFlags := 18, slot := 0, constantValue := 0 }, { name := "coder", type := .byte, accessFlags := 18, slot := 1, constantValue := 0 }, { name := "hash", type := .int, accessFlags := 2, slot := 2, constantValue := 0 }, { name := "hashIsZero", type := .boolean, accessFlags := 2, slot := 3, constantValue := 0 }, { name := "serialVersionUID", type := .long, accessFlags := 26, slot := 0, constantValue := 0 }, { name := "COMPACT_STRINGS", type := .boolean, accessFlags := 24, slot := 1, constantValue := 0 }, { name := "serialPersistentFields", type := (.array (.object "java/io/ObjectStreamField")), accessFlags := 26, slot := 2, constantValue := 0 }, { name := "REPL", type := .char, accessFlags := 26, slot := 3, constantValue := 0 }, { name := "CASE_INSENSITIVE_ORDER", type := (.object "java/util/Comparator"), accessFlags := 25, slot := 4, constantValue := 0 }, { name := "LATIN1", type := .byte, accessFlags := 24, slot := 5, constantValue := 0 }, { name := "UTF16", type := .byte, accessFlags := 24, slot := 6, constantValue := 0 }]
  methods := #[k8m0, k8m1, k8m2, k8m3, k8m4, k8m5]
  instanceTypes := #[(.array .byte), .byte, .int, .boolean]
  staticTypes := #[.long, .boolean, (.array (.object "java/io/ObjectStreamField")), .char, (.object "java/util/Comparator"), .byte, .byte]
  resolved := Array.replicate 1451 none
  statics := some 0 }

def pool9 : Array CpInfo := pool [(6, .class_ 8), (1, u "java/lang/Object"), (0, u "<init>"), (0, u "()V"), (1, .class_ 14), (1, u "java/lang/StringUTF16"), (31, u "$assertionsDisabled"), (0, u "Z"), (13, u "HI_BYTE_SHIFT"), (0, u "I"), (2, u "LO_BYTE_SHIFT"), (49, .methodref 12 116), (0, .nameAndType 117 118), (0, u "compress"), (0, u "([CI[BII)I"), (3, u "([CII)[B"), (138, u "coderFromArrayLen"), (0, u "([BI)B"), (106, .class_ 371), (1, u "java/lang/StringUTF16$LinesSpliterator"), (58, u "MAX_LENGTH"), (196, .class_ 628), (0, u "java/lang/StringUTF16$CodePointsSpliterator"), (0, .class_ 630), (0, u "java/lang/StringUTF16$CharsSpliterator")] 4

def k9m0 : Method := { name := "<init>", desc := "()V", sig := { parameters := [], returnType := none }, accessFlags := 0, code := none }
def k9c1 : Code := { maxStack := 2, maxLocals := 2, code := jdk_52_method_15_code, exceptionTable := #[], attributes := #[] }
def k9m1 : Method := { name := "coderFromArrayLen", desc := "([BI)B", sig := { parameters := [(.array .byte), .int], returnType := some .byte }, accessFlags := 8, code := some k9c1 }
def k9c2 : Code := { maxStack := 5, maxLocals := 6, code := jdk_52_method_16_code, exceptionTable := #[], attributes := #[] }
def k9m2 : Method := { name := "compress", desc := "([CII)[B", sig := { parameters := [(.array .char), .int, .int], returnType := some (.array .byte) }, accessFlags := 9, code := some k9c2 }
def k9c3 : Code := { maxStack := 3, maxLocals := 7, code := jdk_52_method_21_code, exceptionTable := #[], attributes := #[] }
def k9m3 : Method := { name := "compress", desc := "([CI[BII)I", sig := { parameters := [(.array .char), .int, (.array .byte), .int, .int], returnType := some .int }, accessFlags := 9, code := some k9c3 }
/-- java/lang/StringUTF16 -/
def k9 : Class := { plain "java/lang/StringUTF16" (some 0) with
  accessFlags := 48
  interfaces := #[]
  cf := some (fileOf pool9 12 #[.nestMembers #[627, 629, 369]] #[{ accessFlags := 0, nameIndex := 9, descriptorIndex := 10, attributes := #[] }, { accessFlags := 8, nameIndex := 261, descriptorIndex := 262, attributes := #[] }, { accessFlags := 9, nameIndex := 117, descriptorIndex := 122, attributes := #[] }, { accessFlags := 9, nameIndex := 117, descriptorIndex := 118, attributes := #[] }] 48 6 #[] #[{ accessFlags := 26, nameIndex := 61, descriptorIndex := 62, attributes := #[] }, { accessFlags := 26, nameIndex := 65, descriptorIndex := 62, attributes := #[] }, { accessFlags := 24, nameIndex := 430, descriptorIndex := 62, attributes := #[] }, { accessFlags := 4120, nameIndex := 46, descriptorIndex := 47, attributes := #[] }])
  fields := #[{ name := "HI_BYTE_SHIFT", type := .int, accessFlags := 26, slot := 0, constantValue := 0 }, { name := "LO_BYTE_SHIFT", type := .int, accessFlags := 26, slot := 1, constantValue := 0 }, { name := "MAX_LENGTH", type := .int, accessFlags := 24, slot := 2, constantValue := 0 }, { name := "$assertionsDisabled", type := .boolean, accessFlags := 4120, slot := 3, constantValue := 0 }]
  methods := #[k9m0, k9m1, k9m2, k9m3]
  instanceTypes := #[]
  staticTypes := #[.int, .int, .int, .boolean]
  resolved := Array.replicate 635 none
  statics := none }

def pool10 : Array CpInfo := pool [(4, .class_ 6), (1, u "java/lang/Object"), (0, u "<init>"), (0, u "()V"), (5, .class_ 16), (1, u "java/lang/StringLatin1"), (73, u "canEncode"), (14, u "(C)Z"), (15, u "$assertionsDisabled"), (0, u "Z"), (98, .class_ 223), (1, u "java/lang/StringLatin1$LinesSpliterator"), (57, u "equals"), (0, u "([B[B)Z"), (97, u "toBytes"), (1, u "(C)[B"), (7, .class_ 391), (0, u "java/lang/StringLatin1$CharsSpliterator")] 3

def k10m0 : Method := { name := "<init>", desc := "()V", sig := { parameters := [], returnType := none }, accessFlags := 0, code := none }
def k10c1 : Code := { maxStack := 2, maxLocals := 1, code := jdk_43_method_3_code, exceptionTable := #[], attributes := #[] }
def k10m1 : Method := { name := "canEncode", desc := "(C)Z", sig := { parameters := [.char], returnType := some .boolean }, accessFlags := 9, code := some k10c1 }
def k10c2 : Code := { maxStack := 3, maxLocals := 3, code := jdk_43_method_13_code, exceptionTable := #[], attributes := #[] }
def k10m2 : Method := { name := "equals", desc := "([B[B)Z", sig := { parameters := [(.array .byte), (.array .byte)], returnType := some .boolean }, accessFlags := 9, code := some k10c2 }
def k10c3 : Code := { maxStack := 4, maxLocals := 1, code := jdk_43_method_46_code, exceptionTable := #[], attributes := #[] }
def k10m3 : Method := { name := "toBytes", desc := "(C)[B", sig := { parameters := [.char], returnType := some (.array .byte) }, accessFlags := 9, code := some k10c3 }
/-- java/lang/StringLatin1 -/
def k10 : Class := { plain "java/lang/StringLatin1" (some 0) with
  accessFlags := 48
  interfaces := #[]
  cf := some (fileOf pool10 14 #[.nestMembers #[390, 221]] #[{ accessFlags := 0, nameIndex := 7, descriptorIndex := 8, attributes := #[] }, { accessFlags := 9, nameIndex := 90, descriptorIndex := 105, attributes := #[] }, { accessFlags := 9, nameIndex := 281, descriptorIndex := 282, attributes := #[] }, { accessFlags := 9, nameIndex := 380, descriptorIndex := 382, attributes := #[] }] 48 4 #[] #[{ accessFlags := 4120, nameIndex := 121, descriptorIndex := 122, attributes := #[] }])
  fields := #[{ name := "$assertionsDisabled", type := .boolean, accessFlags := 4120, slot := 0, constantValue := 0 }]
  methods := #[k10m0, k10m1, k10m2, k10m3]
  instanceTypes := #[]
  staticTypes := #[.boolean]
  resolved := Array.replicate 395 none
  statics := none }

def pool11 : Array CpInfo := pool [(2, .class_ 4), (1, u "java/lang/Object"), (0, u "<init>"), (0, u "()V"), (35, .class_ 44), (1, u "java/util/Objects"), (0, u "requireNonNull"), (0, u "(Ljava/lang/Object;)Ljava/lang/Object;")] 137

def k11m0 : Method := { name := "<init>", desc := "()V", sig := { parameters := [], returnType := none }, accessFlags := 2, code := none }
def k11c1 : Code := { maxStack := 2, maxLocals := 1, code := jdk_31_method_10_code, exceptionTable := #[], attributes := #[] }
def k11m1 : Method := { name := "requireNonNull", desc := "(Ljava/lang/Object;)Ljava/lang/Object;", sig := { parameters := [(.object "java/lang/Object")], returnType := some (.object "java/lang/Object") }, accessFlags := 9, code := some k11c1 }
/-- java/util/Objects -/
def k11 : Class := { plain "java/util/Objects" (some 0) with
  accessFlags := 49
  interfaces := #[]
  cf := some (fileOf pool11 42 #[] #[{ accessFlags := 2, nameIndex := 5, descriptorIndex := 6, attributes := #[] }, { accessFlags := 9, nameIndex := 45, descriptorIndex := 46, attributes := #[] }] 49 2 #[] #[])
  fields := #[]
  methods := #[k11m0, k11m1]
  instanceTypes := #[]
  staticTypes := #[]
  resolved := Array.replicate 184 none
  statics := none }

def pool12 : Array CpInfo := pool [(2, .class_ 4), (1, u "java/lang/Object"), (0, u "<init>"), (0, u "()V"), (17, .class_ 26), (1, u "jdk/internal/util/Preconditions"), (28, .class_ 56), (0, u "jdk/internal/util/Preconditions$4"), (57, .class_ 115), (0, u "jdk/internal/util/Preconditions$1"), (7, u "SIOOBE_FORMATTER"), (0, u "Ljava/util/function/BiFunction;"), (0, .class_ 126), (0, u "jdk/internal/util/Preconditions$2"), (3, u "AIOOBE_FORMATTER"), (0, .class_ 132), (0, u "jdk/internal/util/Preconditions$3"), (3, u "IOOBE_FORMATTER")] 57

def k12m0 : Method := { name := "<init>", desc := "()V", sig := { parameters := [], returnType := none }, accessFlags := 1, code := none }
/-- jdk/internal/util/Preconditions -/
def k12 : Class := { plain "jdk/internal/util/Preconditions" (some 0) with
  accessFlags := 33
  interfaces := #[]
  cf := some (fileOf pool12 24 #[.nestMembers #[55, 131, 125, 114]] #[{ accessFlags := 1, nameIndex := 5, descriptorIndex := 6, attributes := #[] }] 33 2 #[] #[{ accessFlags := 25, nameIndex := 123, descriptorIndex := 124, attributes := #[] }, { accessFlags := 25, nameIndex := 130, descriptorIndex := 124, attributes := #[] }, { accessFlags := 25, nameIndex := 136, descriptorIndex := 124, attributes := #[] }])
  fields := #[{ name := "SIOOBE_FORMATTER", type := (.object "java/util/function/BiFunction"), accessFlags := 25, slot := 0, constantValue := 0 }, { name := "AIOOBE_FORMATTER", type := (.object "java/util/function/BiFunction"), accessFlags := 25, slot := 1, constantValue := 0 }, { name := "IOOBE_FORMATTER", type := (.object "java/util/function/BiFunction"), accessFlags := 25, slot := 2, constantValue := 0 }]
  methods := #[k12m0]
  instanceTypes := #[]
  staticTypes := #[(.object "java/util/function/BiFunction"), (.object "java/util/function/BiFunction"), (.object "java/util/function/BiFunction")]
  resolved := Array.replicate 194 none
  statics := some 1 }

def pool13 : Array CpInfo := pool [(9, u "<init>"), (6, .class_ 18), (1, u "java/lang/Object"), (0, u "()V"), (1, .class_ 23), (1, u "jdk/internal/util/ArraysSupport"), (0, u "LOG2_ARRAY_LONG_INDEX_SCALE"), (0, u "I"), (2, u "U"), (0, u "Ljdk/internal/misc/Unsafe;"), (8, u "BIG_ENDIAN"), (0, u "Z"), (8, u "LOG2_BYTE_BIT_SIZE"), (4, u "LOG2_ARRAY_INT_INDEX_SCALE"), (54, u "JLA"), (0, u "Ljdk/internal/access/JavaLangAccess;"), (11, u "LOG2_ARRAY_BOOLEAN_INDEX_SCALE"), (9, u "LOG2_ARRAY_BYTE_INDEX_SCALE"), (5, u "LOG2_ARRAY_CHAR_INDEX_SCALE"), (5, u "LOG2_ARRAY_SHORT_INDEX_SCALE"), (18, u "LOG2_ARRAY_FLOAT_INDEX_SCALE"), (24, u "LOG2_ARRAY_DOUBLE_INDEX_SCALE"), (89, u "T_BOOLEAN"), (2, u "T_CHAR"), (1, u "T_FLOAT"), (1, u "T_DOUBLE"), (1, u "T_BYTE"), (1, u "T_SHORT"), (1, u "T_INT"), (1, u "T_LONG"), (1, u "SOFT_MAX_ARRAY_LENGTH")] 83

def k13m0 : Method := { name := "<init>", desc := "()V", sig := { parameters := [], returnType := none }, accessFlags := 2, code := none }
/-- jdk/internal/util/ArraysSupport -/
def k13 : Class := { plain "jdk/internal/util/ArraysSupport" (some 0) with
  accessFlags := 33
  interfaces := #[]
  cf := some (fileOf pool13 21 #[] #[{ accessFlags := 2, nameIndex := 9, descriptorIndex := 19, attributes := #[] }] 33 16 #[] #[{ accessFlags := 24, nameIndex := 28, descriptorIndex := 29, attributes := #[] }, { accessFlags := 26, nameIndex := 38, descriptorIndex := 39, attributes := #[] }, { accessFlags := 25, nameIndex := 121, descriptorIndex := 25, attributes := #[] }, { accessFlags := 25, nameIndex := 131, descriptorIndex := 25, attributes := #[] }, { accessFlags := 25, nameIndex := 137, descriptorIndex := 25, attributes := #[] }, { accessFlags := 25, nameIndex := 143, descriptorIndex := 25, attributes := #[] }, { accessFlags := 25, nameIndex := 53, descriptorIndex := 25, attributes := #[] }, { accessFlags := 25, nameIndex := 24, descriptorIndex := 25, attributes := #[] }, { accessFlags := 25, nameIndex := 162, descriptorIndex := 25, attributes := #[] }, { accessFlags := 25, nameIndex := 187, descriptorIndex := 25, attributes := #[] }, { accessFlags := 26, nameIndex := 48, descriptorIndex := 25, attributes := #[] }, { accessFlags := 25, nameIndex := 277, descriptorIndex := 25, attributes := #[] }, { accessFlags := 25, nameIndex := 280, descriptorIndex := 25, attributes := #[] }, { accessFlags := 25, nameIndex := 282, descriptorIndex := 25, attributes := #[] }, { accessFlags := 25, nameIndex := 284, descriptorIndex := 25, attributes := #[] }, { accessFlags := 25, nameIndex := 286, descriptorIndex := 25, attributes := #[] }, { accessFlags := 25, nameIndex := 288, descriptorIndex := 25, attributes := #[] }, { accessFlags := 25, nameIndex := 290, descriptorIndex := 25, attributes := #[] }, { accessFlags := 25, nameIndex := 292, descriptorIndex := 25, attributes := #[] }, { accessFlags := 26, nameIndex := 108, descriptorIndex := 109, attributes := #[] }, { accessFlags := 25, nameIndex := 294, descriptorIndex := 25, attributes := #[] }])
  fields := #[{ name := "U", type := (.object "jdk/internal/misc/Unsafe"), accessFlags := 24, slot := 0, constantValue := 0 }, { name := "BIG_ENDIAN", type := .boolean, accessFlags := 26, slot := 1, constantValue := 0 }, { name := "LOG2_ARRAY_BOOLEAN_INDEX_SCALE", type := .int, accessFlags := 25, slot := 2, constantValue := 0 }, { name := "LOG2_ARRAY_BYTE_INDEX_SCALE", type := .int, accessFlags := 25, slot := 3, constantValue := 0 }, { name := "LOG2_ARRAY_CHAR_INDEX_SCALE", type := .int, accessFlags := 25, slot := 4, constantValue := 0 }, { name := "LOG2_ARRAY_SHORT_INDEX_SCALE", type := .int, accessFlags := 25, slot := 5, constantValue := 0 }, { name := "LOG2_ARRAY_INT_INDEX_SCALE", type := .int, accessFlags := 25, slot := 6, constantValue := 0 }, { name := "LOG2_ARRAY_LONG_INDEX_SCALE", type := .int, accessFlags := 25, slot := 7, constantValue := 0 }, { name := "LOG2_ARRAY_FLOAT_INDEX_SCALE", type := .int, accessFlags := 25, slot := 8, constantValue := 0 }, { name := "LOG2_ARRAY_DOUBLE_INDEX_SCALE", type := .int, accessFlags := 25, slot := 9, constantValue := 0 }, { name := "LOG2_BYTE_BIT_SIZE", type := .int, accessFlags := 26, slot := 10, constantValue := 0 }, { name := "T_BOOLEAN", type := .int, accessFlags := 25, slot := 11, constantValue := 0 }, { name := "T_CHAR", type := .int, accessFlags := 25, slot := 12, constantValue := 0 }, { name := "T_FLOAT", type := .int, accessFlags := 25, slot := 13, constantValue := 0 }, { name := "T_DOUBLE", type := .int, accessFlags := 25, slot := 14, constantValue := 0 }, { name := "T_BYTE", type := .int, accessFlags := 25, slot := 15, constantValue := 0 }, { name := "T_SHORT", type := .int, accessFlags := 25, slot := 16, constantValue := 0 }, { name := "T_INT", type := .int, accessFlags := 25, slot := 17, constantValue := 0 }, { name := "T_LONG", type := .int, accessFlags := 25, slot := 18, constantValue := 0 }, { name := "JLA", type := (.object "jdk/internal/access/JavaLangAccess"), accessFlags := 26, slot := 19, constantValue := 0 }, { name := "SOFT_MAX_ARRAY_LENGTH", type := .int, accessFlags := 25, slot := 20, constantValue := 0 }]
  methods := #[k13m0]
  instanceTypes := #[]
  staticTypes := #[(.object "jdk/internal/misc/Unsafe"), .boolean, .int, .int, .int, .int, .int, .int, .int, .int, .int, .int, .int, .int, .int, .int, .int, .int, .int, (.object "jdk/internal/access/JavaLangAccess"), .int]
  resolved := Array.replicate 378 none
  statics := none }

def pool14 : Array CpInfo := pool [(1, u "java/lang/Cloneable"), (0, .class_ 1), (0, u "java/lang/Object"), (0, .class_ 3)] 3

/-- java/lang/Cloneable -/
def k14 : Class := { plain "java/lang/Cloneable" (some 0) with
  accessFlags := 1537
  interfaces := #[]
  cf := some (fileOf pool14 2 #[] #[] 1537 4 #[] #[])
  fields := #[]
  methods := #[]
  instanceTypes := #[]
  staticTypes := #[]
  resolved := Array.replicate 8 none
  statics := none }

/-- the primitive byte -/
def k15 : Class := { plain "byte" none with kind := .primitive 'B', accessFlags := 0x411 }
/-- [B -/
def k16 : Class := { plain "[B" (some 0) with kind := .array 15 .byte, interfaces := #[14, 3], accessFlags := 1041 }

/-- the primitive char -/
def k17 : Class := { plain "char" none with kind := .primitive 'C', accessFlags := 0x411 }
/-- [C -/
def k18 : Class := { plain "[C" (some 0) with kind := .array 17 .char, interfaces := #[14, 3], accessFlags := 1041 }

/-- the primitive int -/
def k19 : Class := { plain "int" none with kind := .primitive 'I', accessFlags := 0x411 }
/-- [I -/
def k20 : Class := { plain "[I" (some 0) with kind := .array 19 .int, interfaces := #[14, 3], accessFlags := 1041 }

def heap : Heap := #[{ cls := 8, slots := #[.long 0, .int 1, .null, .int 0, .null, .int 0, .int 0], vm := .statics 8 },
  { cls := 12, slots := #[.null, .null, .null], vm := .statics 12 }]
def classes : Array Class := #[k0, k1, k2, k3, k4, k5, k6, k7, k8, k9, k10, k11, k12, k13, k14, k15, k16, k17, k18, k19, k20]
def interned : List (Array UInt16 × Addr) := []
def slotsUsed : Nat := 10
def theMethod : MethodId := ⟨1, 5⟩
def args0 : Array Value := #[.long 1, .long 2, .long 3, .long 4, .int 5, .int 6]
def aboutOver (below : List Frame) : State where
  vm := { classes := classes, interned := interned.toArray }
  heap := heap
  slotsUsed := slotsUsed
  threads := #[{ frames := .invoking theMethod args0 :: below }]
def below0 : List Frame := [.native { method := ⟨0, 0⟩, args := #[] }]
def about1 : State := aboutOver below0
def p0 : Program := .bare "" "" ""
def e0 : Env := launch0.env 0 0 0
theorem w_frames : about1.frames = Frame.invoking theMethod args0 :: below0 := rfl
set_option maxRecDepth 65536 in
theorem w_args : argsFit about1.vm theMethod args0 = true := by decide +kernel
set_option maxRecDepth 65536 in
theorem w_heap : heapFits about1 = true := by decide +kernel
set_option maxRecDepth 65536 in
theorem w_runnable : about1.curStatus? = some .runnable := by decide +kernel
set_option maxRecDepth 65536 in
theorem w_alone : about1.alone = true := by decide +kernel
set_option maxRecDepth 65536 in
theorem w_named : about1.methodNamed? x = some theMethod := by decide +kernel
set_option maxRecDepth 65536 in
theorem w_hears : about1.hears theMethod below0 = true := by decide +kernel
set_option maxRecDepth 65536 in
theorem w_ripe : about1.ripe theMethod args0 below0 = true := by decide +kernel
theorem w_running : about1.status = .running := rfl
set_option maxRecDepth 65536 in
theorem w_room : about1.hasRoom e0.platform room_1 = true :=
  launch0.hasRoom_least _ room_1 (by decide +kernel) (by decide +kernel) (by decide +kernel) (by decide +kernel) (by decide +kernel) (by decide +kernel)
theorem allAtoms_all (ts : List Jvm.Cond) (a : Array Jvm.Value) (st : Jvm.State) : (allAtoms ts).before a st = ts.all (fun c => c.before a st) := by
  induction ts with
  | nil => rfl
  | cons c t ih =>
    show (Jvm.Cond.and c (allAtoms t)).before a st = _
    rw [Jvm.Cond.before_and, ih, List.all_cons]
def words1 : List Jvm.Cond := Jvm.Cond.code x code maxLocals ret :: tables_1
/-- a 'code' word, met by the world's own term for the bytes: nothing is compared byte by byte -/
theorem code_word {y : MethodName} {bytes : ByteArray} {mx : Nat} {rt : Option FieldType} {a : Array Value} {s : State} {m : MethodId} {meth : Method} {c : Code} (h1 : s.methodNamed? y = some m) (h2 : s.vm.method? m = some meth) (h3 : meth.code = some c) (h4 : c.code = bytes)
    (h5 : (c.maxLocals == mx && c.exceptionTable.isEmpty && decide (c.maxStack ≤ mostOperands) && decide (meth.sig.returnType = rt) && !meth.locks && decide (parseMethodDescriptor y.desc = some meth.sig)) = true) : (Jvm.Cond.code y bytes mx rt).before a s = true := by
  simp only [Bool.and_eq_true, beq_iff_eq, Bool.not_eq_true', decide_eq_true_eq] at h5
  obtain ⟨⟨⟨⟨⟨g1, g2⟩, g3⟩, g4⟩, g5⟩, g6⟩ := h5
  simp [Cond.before, Cond.holds, Cond.value, h1, h2, h3, h4, g1, g2, g3, g4, g5, g6]
def isCode : Jvm.Cond → Bool
  | .code _ _ _ _ => true
  | _ => false
theorem all_split {L : List Jvm.Cond} {P : Jvm.Cond → Bool} (h1 : L.all (fun c => isCode c || P c) = true) (h2 : ∀ c ∈ L.filter isCode, P c = true) : L.all P = true := by
  refine List.all_eq_true.mpr fun c hc => ?_
  have h := List.all_eq_true.mp h1 c hc
  rcases Bool.eq_false_or_eq_true (isCode c) with hi | hi
  · exact h2 c (List.mem_filter.mpr ⟨hc, hi⟩)
  · simpa [hi] using h
set_option maxRecDepth 65536 in
theorem w_c0 : (Jvm.Cond.code x code maxLocals ret).before args0 about1 = true := code_word (m := ⟨1, 5⟩) (meth := k1m5) (c := k1c5) (by decide +kernel) rfl rfl rfl (by decide +kernel)
set_option maxRecDepth 65536 in
theorem w_c1 : (Jvm.Cond.code ({ cls := "com/example/nameward/nameward/model/ClaimsRecordEqualsPinLaw", name := "hi", desc := "(J)I" } : Jvm.MethodName) method_4_code (2 : Nat) (Option.some Jvm.ClassFile.FieldType.int)).before args0 about1 = true := code_word (m := ⟨1, 3⟩) (meth := k1m3) (c := k1c3) (by decide +kernel) rfl rfl rfl (by decide +kernel)
set_option maxRecDepth 65536 in
theorem w_c2 : (Jvm.Cond.code ({ cls := "com/example/nameward/nameward/model/ClaimsRecordEqualsPinLaw", name := "lo", desc := "(J)I" } : Jvm.MethodName) method_5_code (2 : Nat) (Option.some Jvm.ClassFile.FieldType.int)).before args0 about1 = true := code_word (m := ⟨1, 4⟩) (meth := k1m4) (c := k1c4) (by decide +kernel) rfl rfl rfl (by decide +kernel)
set_option maxRecDepth 65536 in
theorem w_c3 : (Jvm.Cond.code ({ cls := "com/example/nameward/nameward/model/ClaimsRecordEqualsPinLaw", name := "mk", desc := "(I)Ljava/lang/String;" } : Jvm.MethodName) method_2_code (5 : Nat) (Option.some (Jvm.ClassFile.FieldType.object "java/lang/String"))).before args0 about1 = true := code_word (m := ⟨1, 1⟩) (meth := k1m1) (c := k1c1) (by decide +kernel) rfl rfl rfl (by decide +kernel)
set_option maxRecDepth 65536 in
theorem w_c4 : (Jvm.Cond.code ({ cls := "java/lang/String", name := "<init>", desc := "([C)V" } : Jvm.MethodName) jdk_42_method_3_code (2 : Nat) (Option.none : Option Jvm.ClassFile.FieldType)).before args0 about1 = true := code_word (m := ⟨8, 1⟩) (meth := k8m1) (c := k8c1) (by decide +kernel) rfl rfl rfl (by decide +kernel)
set_option maxRecDepth 65536 in
theorem w_c5 : (Jvm.Cond.code ({ cls := "java/lang/String", name := "<init>", desc := "([CIILjava/lang/Void;)V" } : Jvm.MethodName) jdk_42_method_149_code (6 : Nat) (Option.none : Option Jvm.ClassFile.FieldType)).before args0 about1 = true := code_word (m := ⟨8, 4⟩) (meth := k8m4) (c := k8c4) (by decide +kernel) rfl rfl rfl (by decide +kernel)
set_option maxRecDepth 65536 in
theorem w_c6 : (Jvm.Cond.code ({ cls := "java/lang/Object", name := "<init>", desc := "()V" } : Jvm.MethodName) object_method_1_code (1 : Nat) (Option.none : Option Jvm.ClassFile.FieldType)).before args0 about1 = true := code_word (m := ⟨0, 0⟩) (meth := k0m0) (c := k0c0) (by decide +kernel) rfl rfl rfl (by decide +kernel)
set_option maxRecDepth 65536 in
theorem w_c7 : (Jvm.Cond.code ({ cls := "java/lang/StringUTF16", name := "compress", desc := "([CII)[B" } : Jvm.MethodName) jdk_52_method_16_code (6 : Nat) (Option.some (Jvm.ClassFile.FieldType.array Jvm.ClassFile.FieldType.byte))).before args0 about1 = true := code_word (m := ⟨9, 2⟩) (meth := k9m2) (c := k9c2) (by decide +kernel) rfl rfl rfl (by decide +kernel)
set_option maxRecDepth 65536 in
theorem w_c8 : (Jvm.Cond.code ({ cls := "java/lang/StringUTF16", name := "compress", desc := "([CI[BII)I" } : Jvm.MethodName) jdk_52_method_21_code (7 : Nat) (Option.some Jvm.ClassFile.FieldType.int)).before args0 about1 = true := code_word (m := ⟨9, 3⟩) (meth := k9m3) (c := k9c3) (by decide +kernel) rfl rfl rfl (by decide +kernel)
set_option maxRecDepth 65536 in
theorem w_c9 : (Jvm.Cond.code ({ cls := "java/lang/StringUTF16", name := "coderFromArrayLen", desc := "([BI)B" } : Jvm.MethodName) jdk_52_method_15_code (2 : Nat) (Option.some Jvm.ClassFile.FieldType.byte)).before args0 about1 = true := code_word (m := ⟨9, 1⟩) (meth := k9m1) (c := k9c1) (by decide +kernel) rfl rfl rfl (by decide +kernel)
set_option maxRecDepth 65536 in
theorem w_c10 : (Jvm.Cond.code ({ cls := "java/lang/String", name := "valueOf", desc := "(C)Ljava/lang/String;" } : Jvm.MethodName) jdk_42_method_139_code (1 : Nat) (Option.some (Jvm.ClassFile.FieldType.object "java/lang/String"))).before args0 about1 = true := code_word (m := ⟨8, 3⟩) (meth := k8m3) (c := k8c3) (by decide +kernel) rfl rfl rfl (by decide +kernel)
set_option maxRecDepth 65536 in
theorem w_c11 : (Jvm.Cond.code ({ cls := "java/lang/StringLatin1", name := "canEncode", desc := "(C)Z" } : Jvm.MethodName) jdk_43_method_3_code (1 : Nat) (Option.some Jvm.ClassFile.FieldType.boolean)).before args0 about1 = true := code_word (m := ⟨10, 1⟩) (meth := k10m1) (c := k10c1) (by decide +kernel) rfl rfl rfl (by decide +kernel)
set_option maxRecDepth 65536 in
theorem w_c12 : (Jvm.Cond.code ({ cls := "java/lang/StringLatin1", name := "toBytes", desc := "(C)[B" } : Jvm.MethodName) jdk_43_method_46_code (1 : Nat) (Option.some (Jvm.ClassFile.FieldType.array Jvm.ClassFile.FieldType.byte))).before args0 about1 = true := code_word (m := ⟨10, 3⟩) (meth := k10m3) (c := k10c3) (by decide +kernel) rfl rfl rfl (by decide +kernel)
set_option maxRecDepth 65536 in
theorem w_c13 : (Jvm.Cond.code ({ cls := "java/lang/String", name := "<init>", desc := "([BB)V" } : Jvm.MethodName) jdk_42_method_151_code (3 : Nat) (Option.none : Option Jvm.ClassFile.FieldType)).before args0 about1 = true := code_word (m := ⟨8, 5⟩) (meth := k8m5) (c := k8c5) (by decide +kernel) rfl rfl rfl (by decide +kernel)
set_option maxRecDepth 65536 in
theorem w_c14 : (Jvm.Cond.code ({ cls := "com/example/nameward/nameward/model/ClaimsRecord", name := "<init>", desc := "(Ljava/lang/String;Ljava/lang/String;Ljava/lang/String;Ljava/lang/String;)V" } : Jvm.MethodName) prog_17_method_1_code (5 : Nat) (Option.none : Option Jvm.ClassFile.FieldType)).before args0 about1 = true := code_word (m := ⟨2, 0⟩) (meth := k2m0) (c := k2c0) (by decide +kernel) rfl rfl rfl (by decide +kernel)
set_option maxRecDepth 65536 in
theorem w_c15 : (Jvm.Cond.code ({ cls := "java/util/Objects", name := "requireNonNull", desc := "(Ljava/lang/Object;)Ljava/lang/Object;" } : Jvm.MethodName) jdk_31_method_10_code (1 : Nat) (Option.some (Jvm.ClassFile.FieldType.object "java/lang/Object"))).before args0 about1 = true := code_word (m := ⟨11, 1⟩) (meth := k11m1) (c := k11c1) (by decide +kernel) rfl rfl rfl (by decide +kernel)
set_option maxRecDepth 65536 in
theorem w_c16 : (Jvm.Cond.code ({ cls := "com/example/nameward/nameward/model/ClaimsRecord", name := "equals", desc := "(Ljava/lang/Object;)Z" } : Jvm.MethodName) prog_17_method_6_code (3 : Nat) (Option.some Jvm.ClassFile.FieldType.boolean)).before args0 about1 = true := code_word (m := ⟨2, 1⟩) (meth := k2m1) (c := k2c1) (by decide +kernel) rfl rfl rfl (by decide +kernel)
set_option maxRecDepth 65536 in
theorem w_c17 : (Jvm.Cond.code ({ cls := "com/example/nameward/nameward/model/ClaimsRecordEqualsPinLaw", name := "key", desc := "(I)I" } : Jvm.MethodName) method_3_code (3 : Nat) (Option.some Jvm.ClassFile.FieldType.int)).before args0 about1 = true := code_word (m := ⟨1, 2⟩) (meth := k1m2) (c := k1c2) (by decide +kernel) rfl rfl rfl (by decide +kernel)
set_option maxRecDepth 65536 in
theorem w_c18 : (Jvm.Cond.code ({ cls := "java/lang/String", name := "equals", desc := "(Ljava/lang/Object;)Z" } : Jvm.MethodName) jdk_42_method_66_code (3 : Nat) (Option.some Jvm.ClassFile.FieldType.boolean)).before args0 about1 = true := code_word (m := ⟨8, 2⟩) (meth := k8m2) (c := k8c2) (by decide +kernel) rfl rfl rfl (by decide +kernel)
set_option maxRecDepth 65536 in
theorem w_c19 : (Jvm.Cond.code ({ cls := "java/lang/StringLatin1", name := "equals", desc := "([B[B)Z" } : Jvm.MethodName) jdk_43_method_13_code (3 : Nat) (Option.some Jvm.ClassFile.FieldType.boolean)).before args0 about1 = true := code_word (m := ⟨10, 2⟩) (meth := k10m2) (c := k10c2) (by decide +kernel) rfl rfl rfl (by decide +kernel)
def codes1 : List Jvm.Cond := [Jvm.Cond.code x code maxLocals ret, Jvm.Cond.code ({ cls := "com/example/nameward/nameward/model/ClaimsRecordEqualsPinLaw", name := "hi", desc := "(J)I" } : Jvm.MethodName) method_4_code (2 : Nat) (Option.some Jvm.ClassFile.FieldType.int), Jvm.Cond.code ({ cls := "com/example/nameward/nameward/model/ClaimsRecordEqualsPinLaw", name := "lo", desc := "(J)I" } : Jvm.MethodName) method_5_code (2 : Nat) (Option.some Jvm.ClassFile.FieldType.int), Jvm.Cond.code ({ cls := "com/example/nameward/nameward/model/ClaimsRecordEqualsPinLaw", name := "mk", desc := "(I)Ljava/lang/String;" } : Jvm.MethodName) method_2_code (5 : Nat) (Option.some (Jvm.ClassFile.FieldType.object "java/lang/String")), Jvm.Cond.code ({ cls := "java/lang/String", name := "<init>", desc := "([C)V" } : Jvm.MethodName) jdk_42_method_3_code (2 : Nat) (Option.none : Option Jvm.ClassFile.FieldType), Jvm.Cond.code ({ cls := "java/lang/String", name := "<init>", desc := "([CIILjava/lang/Void;)V" } : Jvm.MethodName) jdk_42_method_149_code (6 : Nat) (Option.none : Option Jvm.ClassFile.FieldType), Jvm.Cond.code ({ cls := "java/lang/Object", name := "<init>", desc := "()V" } : Jvm.MethodName) object_method_1_code (1 : Nat) (Option.none : Option Jvm.ClassFile.FieldType), Jvm.Cond.code ({ cls := "java/lang/StringUTF16", name := "compress", desc := "([CII)[B" } : Jvm.MethodName) jdk_52_method_16_code (6 : Nat) (Option.some (Jvm.ClassFile.FieldType.array Jvm.ClassFile.FieldType.byte)), Jvm.Cond.code ({ cls := "java/lang/StringUTF16", name := "compress", desc := "([CI[BII)I" } : Jvm.MethodName) jdk_52_method_21_code (7 : Nat) (Option.some Jvm.ClassFile.FieldType.int), Jvm.Cond.code ({ cls := "java/lang/StringUTF16", name := "coderFromArrayLen", desc := "([BI)B" } : Jvm.MethodName) jdk_52_method_15_code (2 : Nat) (Option.some Jvm.ClassFile.FieldType.byte), Jvm.Cond.code ({ cls := "java/lang/String", name := "valueOf", desc := "(C)Ljava/lang/String;" } : Jvm.MethodName) jdk_42_method_139_code (1 : Nat) (Option.some (Jvm.ClassFile.FieldType.object "java/lang/String")), Jvm.Cond.code ({ cls := "java/lang/StringLatin1", name := "canEncode", desc := "(C)Z" } : Jvm.MethodName) jdk_43_method_3_code (1 : Nat) (Option.some Jvm.ClassFile.FieldType.boolean), Jvm.Cond.code ({ cls := "java/lang/StringLatin1", name := "toBytes", desc := "(C)[B" } : Jvm.MethodName) jdk_43_method_46_code (1 : Nat) (Option.some (Jvm.ClassFile.FieldType.array Jvm.ClassFile.FieldType.byte)), Jvm.Cond.code ({ cls := "java/lang/String", name := "<init>", desc := "([BB)V" } : Jvm.MethodName) jdk_42_method_151_code (3 : Nat) (Option.none : Option Jvm.ClassFile.FieldType), Jvm.Cond.code ({ cls := "com/example/nameward/nameward/model/ClaimsRecord", name := "<init>", desc := "(Ljava/lang/String;Ljava/lang/String;Ljava/lang/String;Ljava/lang/String;)V" } : Jvm.MethodName) prog_17_method_1_code (5 : Nat) (Option.none : Option Jvm.ClassFile.FieldType), Jvm.Cond.code ({ cls := "java/util/Objects", name := "requireNonNull", desc := "(Ljava/lang/Object;)Ljava/lang/Object;" } : Jvm.MethodName) jdk_31_method_10_code (1 : Nat) (Option.some (Jvm.ClassFile.FieldType.object "java/lang/Object")), Jvm.Cond.code ({ cls := "com/example/nameward/nameward/model/ClaimsRecord", name := "equals", desc := "(Ljava/lang/Object;)Z" } : Jvm.MethodName) prog_17_method_6_code (3 : Nat) (Option.some Jvm.ClassFile.FieldType.boolean), Jvm.Cond.code ({ cls := "com/example/nameward/nameward/model/ClaimsRecordEqualsPinLaw", name := "key", desc := "(I)I" } : Jvm.MethodName) method_3_code (3 : Nat) (Option.some Jvm.ClassFile.FieldType.int), Jvm.Cond.code ({ cls := "java/lang/String", name := "equals", desc := "(Ljava/lang/Object;)Z" } : Jvm.MethodName) jdk_42_method_66_code (3 : Nat) (Option.some Jvm.ClassFile.FieldType.boolean), Jvm.Cond.code ({ cls := "java/lang/StringLatin1", name := "equals", desc := "([B[B)Z" } : Jvm.MethodName) jdk_43_method_13_code (3 : Nat) (Option.some Jvm.ClassFile.FieldType.boolean)]
set_option maxRecDepth 65536 in
theorem codes_eq : words1.filter isCode = codes1 := rfl
theorem w_codes : ∀ c ∈ words1.filter isCode, c.before args0 about1 = true := by
  rw [codes_eq]
  intro c hc
  simp only [codes1, List.mem_cons, List.not_mem_nil, or_false] at hc
  rcases hc with rfl | rfl | rfl | rfl | rfl | rfl | rfl | rfl | rfl | rfl | rfl | rfl | rfl | rfl | rfl | rfl | rfl | rfl | rfl | rfl
  · exact w_c0
  · exact w_c1
  · exact w_c2
  · exact w_c3
  · exact w_c4
  · exact w_c5
  · exact w_c6
  · exact w_c7
  · exact w_c8
  · exact w_c9
  · exact w_c10
  · exact w_c11
  · exact w_c12
  · exact w_c13
  · exact w_c14
  · exact w_c15
  · exact w_c16
  · exact w_c17
  · exact w_c18
  · exact w_c19
set_option maxRecDepth 65536 in
theorem w_t1 : (words1.take 24).all (fun c => isCode c || c.before args0 about1) = true := by decide +kernel
set_option maxRecDepth 65536 in
theorem w_t2 : ((words1.drop 24).take 24).all (fun c => isCode c || c.before args0 about1) = true := by decide +kernel
set_option maxRecDepth 65536 in
theorem w_t3 : (((words1.drop 24).drop 24).take 24).all (fun c => isCode c || c.before args0 about1) = true := by decide +kernel
set_option maxRecDepth 65536 in
theorem w_t4 : ((((words1.drop 24).drop 24).drop 24).take 24).all (fun c => isCode c || c.before args0 about1) = true := by decide +kernel
set_option maxRecDepth 65536 in
theorem w_t5 : ((((words1.drop 24).drop 24).drop 24).drop 24).all (fun c => isCode c || c.before args0 about1) = true := by decide +kernel
theorem w_tables : (allAtoms (Jvm.Cond.code x code maxLocals ret :: tables_1)).before args0 about1 = true := by
  rw [allAtoms_all]
  show words1.all (fun c => c.before args0 about1) = true
  refine all_split ?_ w_codes
  rw [← List.take_append_drop 24 words1, List.all_append, w_t1, ← List.take_append_drop 24 (words1.drop 24), List.all_append, w_t2, ← List.take_append_drop 24 ((words1.drop 24).drop 24), List.all_append, w_t3, ← List.take_append_drop 24 (((words1.drop 24).drop 24).drop 24), List.all_append, w_t4, w_t5]
  rfl
set_option maxRecDepth 65536 in
theorem w_rest : rest_1_c.before args0 about1 = true := by decide +kernel
set_option maxRecDepth 65536 in
theorem w_case : (Jvm.Cond.and given_1 narrow_1).before args0 about1 = true := by decide +kernel
set_option maxRecDepth 65536 in
theorem w_consts : constsHeld consts_1 about1 := Jvm.Lit.constsHeldB_iff.mp (by decide +kernel)
theorem w_applies : (headSpec (Jvm.Cond.code x code maxLocals ret :: tables_1) room_1).applies x e0.platform about1 = true :=
  (Spec.applies_iff w_frames).mpr ⟨w_running, w_runnable, w_alone, w_named, w_hears, w_ripe, w_room, w_tables⟩
theorem atStart : AtStart classFile x code maxLocals ret World_1 tables_1 room_1 Calls_1 rest_1 Pre_1 launch0 p0 e0 about1 theMethod args0 below0 :=
  ⟨lists_1, trivial, launch0.admits_env _ _ _, launch0.least_env, fairChoices_fair.cas, fairChoices_fair.clock, w_frames, w_args, w_heap, w_applies, ⟨w_consts, trivial⟩, w_rest, w_case⟩
end start1
theorem witness_1 : WitnessClaimed_1 := ⟨start1.p0, start1.e0, start1.about1, start1.theMethod, start1.args0, start1.below0, start1.atStart⟩
end Jvm.Pilot.@@N@@
