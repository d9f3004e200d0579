import JvmDerived
import JvmDerived.Pilot.@@N@@Statement
import JvmDerived.Pilot.@@N@@Code
set_option linter.unusedVariables false
set_option linter.unusedSimpArgs false
/- laws to paste: Road.backV, Road.eqW, Road.codOf (cut by pick.py; bodies as the Statement names them) -/
namespace Jvm.Pilot.@@N@@
namespace StrChars
open Jvm Sem ClassFile Op Lib Jvm.Stand Jvm.Free.XT Jvm.Free.ALB Jvm.Free.JM Jvm.Free
open Jvm.Lib.Cold (StaticIs)
/-- a char array whose places are chars -/
def Ch (a : Addr) (A : Cell) (U : State) : Prop := Arr .char a A U ∧ Typed .char A
theorem Ch.mv {a : Addr} {A : Cell} {U U' : State} (h : Ch a A U) (hal : U.vm.Alike U'.vm) (hh : U'.heap = U.heap) : Ch a A U' := ⟨h.1.mv hal hh, h.2⟩
theorem Ch.keep {a : Addr} {A : Cell} {U U' : State} (h : Ch a A U) (hal : U.vm.Alike U'.vm) (hk : U'.heap[a]? = some A) : Ch a A U' := ⟨h.1.keep hal hk, h.2⟩
/-- what place i of a char[]'s cell holds -/
def cv (A : Cell) (i : Nat) : Int32 := match A.slots[i]? with | some (.int x) => x | _ => 0
theorem Ch.get {a : Addr} {A : Cell} {U : State} (h : Ch a A U) {i : Nat} (hi : i < A.slots.size) : A.slots[i]? = some (.int (cv A i)) := by
  have e := Array.getElem?_eq_getElem hi
  have f := h.2 i _ e
  unfold cv; rw [e]
  generalize A.slots[i] = v at f
  cases v <;> simp [fits] at f ⊢
/-- the byte that i2b leaves of a char -/
def lo8 (x : Int32) : Int32 := x.toInt8.toInt32
theorem fits_lo8 (y : Int32) : fits .byte (.int (lo8 y)) = true := by
  have h1 := y.toInt8.le_toInt
  have h2 := y.toInt8.toInt_lt
  simp only [lo8, fits, Bool.and_eq_true, decide_eq_true_eq, Int32.le_iff_toInt_le, Int8.toInt_toInt32, show (-128 : Int32).toInt = -128 from by decide, show (127 : Int32).toInt = 127 from by decide]
  omega
/-- A' is A but that each place j of lo .. hi - 1 holds f j -/
def Laid (A A' : Cell) (lo hi : Nat) (f : Nat → Value) : Prop := A'.cls = A.cls ∧ A'.vm = A.vm ∧ A'.slots.size = A.slots.size ∧ ∀ i, A'.slots[i]? = if lo ≤ i ∧ i < hi then some (f i) else A.slots[i]?
theorem Laid.zero (A : Cell) (lo : Nat) (f : Nat → Value) : Laid A A lo (lo + 0) f := ⟨rfl, rfl, rfl, fun i => by rw [if_neg (by omega)]⟩
theorem Laid.step {A Ak : Cell} {lo k : Nat} {f : Nat → Value} {v : Value} (h : Laid A Ak lo k f) (hlo : lo ≤ k) (hk : k < Ak.slots.size) (hv : v = f k) : Laid A (Ak.setSlot k v) lo (k + 1) f := by
  refine ⟨h.1, h.2.1, by simpa [Cell.setSlot] using h.2.2.1, fun i => ?_⟩
  by_cases e : k = i
  · subst e; rw [Cell.slots_setSlot_self v hk, if_pos (by omega), hv]
  · rw [Cell.slots_setSlot_ne v e, h.2.2.2 i]
    by_cases q : lo ≤ i ∧ i < k
    · rw [if_pos q, if_pos (by omega)]
    · rw [if_neg q, if_neg (by omega)]
def U16 : String := "java/lang/StringUTF16"
namespace Cmp5
def yN : MethodName := ⟨"java/lang/StringUTF16", "compress", "([CI[BII)I"⟩
abbrev yB : ByteArray := jdk_52_method_21_code
theorem d0 : decode yB 0 = .ok (.iconst 0, 1) := by decide +kernel
theorem d1 : decode yB 1 = .ok (.istore 5, 2) := by decide +kernel
theorem d3 : decode yB 3 = .ok (.iload 5, 2) := by decide +kernel
theorem d5 : decode yB 5 = .ok (.iload 4, 2) := by decide +kernel
theorem d7 : decode yB 7 = .ok (.if_icmp (.ge) 37, 3) := by decide +kernel
theorem d10 : decode yB 10 = .ok (.aload_n 0, 1) := by decide +kernel
theorem d11 : decode yB 11 = .ok (.iload_n 1, 1) := by decide +kernel
theorem d12 : decode yB 12 = .ok (.caload, 1) := by decide +kernel
theorem d13 : decode yB 13 = .ok (.istore 6, 2) := by decide +kernel
theorem d15 : decode yB 15 = .ok (.iload 6, 2) := by decide +kernel
theorem d17 : decode yB 17 = .ok (.sipush 255, 3) := by decide +kernel
theorem d20 : decode yB 20 = .ok (.if_icmp (.le) 6, 3) := by decide +kernel
theorem d26 : decode yB 26 = .ok (.aload_n 2, 1) := by decide +kernel
theorem d27 : decode yB 27 = .ok (.iload_n 3, 1) := by decide +kernel
theorem d28 : decode yB 28 = .ok (.iload 6, 2) := by decide +kernel
theorem d30 : decode yB 30 = .ok (.i2b, 1) := by decide +kernel
theorem d31 : decode yB 31 = .ok (.bastore, 1) := by decide +kernel
theorem d32 : decode yB 32 = .ok (.iinc 1 1, 3) := by decide +kernel
theorem d35 : decode yB 35 = .ok (.iinc 3 1, 3) := by decide +kernel
theorem d38 : decode yB 38 = .ok (.iinc 5 1, 3) := by decide +kernel
theorem d41 : decode yB 41 = .ok (.goto (-38), 3) := by decide +kernel
theorem d44 : decode yB 44 = .ok (.iload 4, 2) := by decide +kernel
theorem d46 : decode yB 46 = .ok (.ireturn, 1) := by decide +kernel
def site : List Cond := []
def tab : Cond := tabOf yN yB 7 (some .int) site
def P (b : Addr) (A : Cell) (d : Addr) (B : Cell) (o q len : Nat) (args : Array Value) (s : State) : Prop := args = #[.ref b, .int (Int32.ofNat o), .ref d, .int (Int32.ofNat q), .int (Int32.ofNat len)] ∧ Ch b A s ∧ Arr .byte d B s ∧ b ≠ d ∧ o + len ≤ A.slots.size ∧ q + len ≤ B.slots.size ∧ ∀ i, i < len → ¬ 255 < cv A (o + i)
def E (b : Addr) (A : Cell) (d : Addr) (B : Cell) (o q len : Nat) (r : Option Value) (s u : State) : Prop := r = some (.int (Int32.ofNat len)) ∧ ∃ B', Put d B' s u ∧ Laid B B' q (q + len) (fun j => Value.int (lo8 (cv A (o + (j - q)))))
/-- no char of the range above 255: len; the places written hold each char's low byte -/
theorem law (l : Launch) (b : Addr) (A : Cell) (d : Addr) (B : Cell) (o q len : Nat) : Law l yN 5 5 0 0 yB 7 (some .int) site (P b A d B o q len) (E b A d B o q len) (copyLocs d q len) 0 0 := by
  refine Law.of_walk (plainFor_of_name (by decide +kernel)) (by decide +kernel) (by decide +kernel) (by decide) (fun _ _ h => by rw [h.1]; rfl) (fun _ U U' hal hh h => ⟨h.1, h.2.1.mv hal hh, h.2.2.1.mv hal hh, h.2.2.2⟩) (fun r U U' V V' h1 hal h2 h => ⟨h.1, h.2.elim fun B' q => ⟨B', q.1.mv h1 h2, q.2⟩⟩) ?_
  intro p e s m args below meth c s₁ X0 hexec hbytes hml hret hlk hnm hown hh0 W hP
  obtain ⟨rfl, hA, hB, hne, l1, l2, hp⟩ := hP
  have c1 : Steps p.tables e below (s₁.setTop (entryFrame m #[.ref b, .int (Int32.ofNat o), .ref d, .int (Int32.ofNat q), .int (Int32.ofNat len)] 7)) (s₁.setTop (mkF m 0 #[.val (.ref b), .val (.int (Int32.ofNat o)), .val (.ref d), .val (.int (Int32.ofNat q)), .val (.int (Int32.ofNat len)), .unset, .unset] [])) := entry rfl
  have hA0 := hA.1.mv X0.warmed.alike hh0
  have hB0 := hB.mv X0.warmed.alike hh0
  have a31 := hA.1.2.2.2
  have c2 : Steps p.tables e below (s₁.setTop (entryFrame m #[.ref b, .int (Int32.ofNat o), .ref d, .int (Int32.ofNat q), .int (Int32.ofNat len)] 7)) (s₁.setTop (mkF m 3 #[.val (.ref b), .val (.int (Int32.ofNat o)), .val (.ref d), .val (.int (Int32.ofNat q)), .val (.int (Int32.ofNat len)), .val (.int 0), .unset] [])) := c1.trans (by
    refine iconstV X0.here hexec rfl 0 (hb hbytes d0) (by decide) ?_
    refine XS.istore X0.here hexec rfl (hb hbytes d1) rfl rfl ?_
    exact Steps.refl _)
  have loop : ∀ (r i : Nat), i + r = len → ∀ (z : Slot), (z = .unset ∨ ∃ w, z = .val w ∧ w.category = 1) → ∀ (Tl : State) (Bk : Cell), Stand p l e { frames := 0, locals := 0, cells := 0, slots := 0 } s m #[.ref b, .int (Int32.ofNat o), .ref d, .int (Int32.ofNat q), .int (Int32.ofNat len)] below meth c Tl ([] ++ copyLocs d q i) 0 0 → Put d Bk s₁ Tl → Laid B Bk q (q + i) (fun j => Value.int (lo8 (cv A (o + (j - q))))) →
      Steps p.tables e below (s₁.setTop (entryFrame m #[.ref b, .int (Int32.ofNat o), .ref d, .int (Int32.ofNat q), .int (Int32.ofNat len)] 7)) (Tl.setTop (mkF m 3 #[.val (.ref b), .val (.int (Int32.ofNat (o + i))), .val (.ref d), .val (.int (Int32.ofNat (q + i))), .val (.int (Int32.ofNat len)), .val (.int (Int32.ofNat i)), z] [])) → ∃ (T' : State) (B' : Cell) (z' : Slot), Stand p l e { frames := 0, locals := 0, cells := 0, slots := 0 } s m #[.ref b, .int (Int32.ofNat o), .ref d, .int (Int32.ofNat q), .int (Int32.ofNat len)] below meth c T' ([] ++ copyLocs d q len) 0 0 ∧ Put d B' s₁ T' ∧ Laid B B' q (q + len) (fun j => Value.int (lo8 (cv A (o + (j - q))))) ∧
      Steps p.tables e below (s₁.setTop (entryFrame m #[.ref b, .int (Int32.ofNat o), .ref d, .int (Int32.ofNat q), .int (Int32.ofNat len)] 7)) (T'.setTop (mkF m 3 #[.val (.ref b), .val (.int (Int32.ofNat (o + len))), .val (.ref d), .val (.int (Int32.ofNat (q + len))), .val (.int (Int32.ofNat len)), .val (.int (Int32.ofNat len)), z'] [])) := by
    intro r
    induction r with
    | zero =>
      intro i hi z hz Tl Bk Xl pl fl cl
      have hil : i = len := by omega
      rw [hil] at Xl fl cl
      exact ⟨Tl, Bk, z, Xl, pl, fl, cl⟩
    | succ r ih =>
      intro i hi z hz Tl Bk Xl pl fl cl
      have all := X0.warmed.alike.symm.trans Xl.warmed.alike
      have hAl := hA0.keep all (pl.other hne hA0.1)
      have hBk := hB0.like all pl.1 fl.1 fl.2.1 fl.2.2.1
      have hlt : q + i < Bk.slots.size := by rw [fl.2.2.1]; omega
      have c3 : Steps p.tables e below (s₁.setTop (entryFrame m #[.ref b, .int (Int32.ofNat o), .ref d, .int (Int32.ofNat q), .int (Int32.ofNat len)] 7)) (Tl.setTop (mkF m 12 #[.val (.ref b), .val (.int (Int32.ofNat (o + i))), .val (.ref d), .val (.int (Int32.ofNat (q + i))), .val (.int (Int32.ofNat len)), .val (.int (Int32.ofNat i)), z] [.int (Int32.ofNat (o + i)), .ref b])) := cl.trans (by
        refine XS.iload Xl.here hexec rfl (hb hbytes d3) rfl ?_
        refine XS.iload Xl.here hexec rfl (hb hbytes d5) rfl ?_
        refine XS.icmpNo Xl.here hexec rfl (hb hbytes d7) rfl (ii_ge_f (lt32 (by omega) (by omega))) ?_
        refine XS.aloadN Xl.here hexec rfl (hb hbytes d10) rfl rfl ?_
        refine XS.iloadN Xl.here hexec rfl (hb hbytes d11) rfl ?_
        exact Steps.refl _)
      have c4 : Steps p.tables e below (s₁.setTop (entryFrame m #[.ref b, .int (Int32.ofNat o), .ref d, .int (Int32.ofNat q), .int (Int32.ofNat len)] 7)) (Tl.setTop (mkF m 13 #[.val (.ref b), .val (.int (Int32.ofNat (o + i))), .val (.ref d), .val (.int (Int32.ofNat (q + i))), .val (.int (Int32.ofNat len)), .val (.int (Int32.ofNat i)), z] [.int (cv A (o + i))])) := c3.trans (by
        refine Xl.aget hexec hAl rfl (hA.get (i := o + i) (by omega)) rfl rfl (hb hbytes d12) ?_
        exact Steps.refl _)
      have c5 : Steps p.tables e below (s₁.setTop (entryFrame m #[.ref b, .int (Int32.ofNat o), .ref d, .int (Int32.ofNat q), .int (Int32.ofNat len)] 7)) (Tl.setTop (mkF m 15 #[.val (.ref b), .val (.int (Int32.ofNat (o + i))), .val (.ref d), .val (.int (Int32.ofNat (q + i))), .val (.int (Int32.ofNat len)), .val (.int (Int32.ofNat i)), .val (.int (cv A (o + i)))] [])) := c4.trans (by
        refine XS.istoreS Xl.here hexec rfl (hb hbytes d13) rfl rfl hz ?_
        exact Steps.refl _)
      have c6 : Steps p.tables e below (s₁.setTop (entryFrame m #[.ref b, .int (Int32.ofNat o), .ref d, .int (Int32.ofNat q), .int (Int32.ofNat len)] 7)) (Tl.setTop (mkF m 31 #[.val (.ref b), .val (.int (Int32.ofNat (o + i))), .val (.ref d), .val (.int (Int32.ofNat (q + i))), .val (.int (Int32.ofNat len)), .val (.int (Int32.ofNat i)), .val (.int (cv A (o + i)))] [.int (lo8 (cv A (o + i))), .int (Int32.ofNat (q + i)), .ref d])) := c5.trans (by
        refine XS.iload Xl.here hexec rfl (hb hbytes d15) rfl ?_
        refine sipushV Xl.here hexec rfl 255 (hb hbytes d17) (by decide) ?_
        refine XS.icmpYes Xl.here hexec rfl (pc0 := 20) rfl (hb hbytes d20) rfl (ii_le_t (hp i (by omega))) (by decide) rfl ?_
        refine XS.aloadN Xl.here hexec rfl (hb hbytes d26) rfl rfl ?_
        refine XS.iloadN Xl.here hexec rfl (hb hbytes d27) rfl ?_
        refine XS.iload Xl.here hexec rfl (hb hbytes d28) rfl ?_
        refine i2b Xl.here hexec rfl (hb hbytes d30) rfl ?_
        exact Steps.refl _)
      obtain ⟨T7, X7, p7, st7⟩ := Xl.aput hexec hBk rfl hlt rfl (fits_lo8 (cv A (o + i))) (g := (mkF m 31 #[.val (.ref b), .val (.int (Int32.ofNat (o + i))), .val (.ref d), .val (.int (Int32.ofNat (q + i))), .val (.int (Int32.ofNat len)), .val (.int (Int32.ofNat i)), .val (.int (cv A (o + i)))] [.int (lo8 (cv A (o + i))), .int (Int32.ofNat (q + i)), .ref d])) rfl (rest := []) rfl (hb hbytes d31)
      have c8 : Steps p.tables e below (s₁.setTop (entryFrame m #[.ref b, .int (Int32.ofNat o), .ref d, .int (Int32.ofNat q), .int (Int32.ofNat len)] 7)) (T7.setTop (mkF m 32 #[.val (.ref b), .val (.int (Int32.ofNat (o + i))), .val (.ref d), .val (.int (Int32.ofNat (q + i))), .val (.int (Int32.ofNat len)), .val (.int (Int32.ofNat i)), .val (.int (cv A (o + i)))] [])) := c6.trans (st7 _ (Steps.refl _))
      have c9 : Steps p.tables e below (s₁.setTop (entryFrame m #[.ref b, .int (Int32.ofNat o), .ref d, .int (Int32.ofNat q), .int (Int32.ofNat len)] 7)) (T7.setTop (mkF m 3 #[.val (.ref b), .val (.int (Int32.ofNat (o + i) + 1)), .val (.ref d), .val (.int (Int32.ofNat (q + i) + 1)), .val (.int (Int32.ofNat len)), .val (.int (Int32.ofNat i + 1)), .val (.int (cv A (o + i)))] [])) := c8.trans (by
        refine iincV X7.here hexec rfl 1 (hb hbytes d32) (by decide) rfl rfl ?_
        refine iincV X7.here hexec rfl 1 (hb hbytes d35) (by decide) rfl rfl ?_
        refine iincV X7.here hexec rfl 1 (hb hbytes d38) (by decide) rfl rfl ?_
        refine XS.goto X7.here hexec rfl (pc0 := 41) rfl (hb hbytes d41) (by decide) rfl ?_
        exact Steps.refl _)
      have c10 : Steps p.tables e below (s₁.setTop (entryFrame m #[.ref b, .int (Int32.ofNat o), .ref d, .int (Int32.ofNat q), .int (Int32.ofNat len)] 7)) (T7.setTop (mkF m 3 #[.val (.ref b), .val (.int (Int32.ofNat (o + (i + 1)))), .val (.ref d), .val (.int (Int32.ofNat (q + (i + 1)))), .val (.int (Int32.ofNat len)), .val (.int (Int32.ofNat (i + 1))), .val (.int (cv A (o + i)))] [])) := by
        have := c9
        rw [succ32, succ32, succ32] at this
        exact this
      exact ih (i + 1) (by omega) _ (Or.inr ⟨_, rfl, rfl⟩) T7 _ (by rw [copyLocs_step, ← List.append_assoc]; exact X7) (pl.trans p7) (fl.step (by omega) hlt (by simp)) c10
  obtain ⟨T9, B9, z9, X9, p9, f9, g9⟩ := loop len 0 (by omega) .unset (Or.inl rfl) s₁ B (by simpa [copyLocs] using X0) ⟨hB0.1, fun _ _ => rfl, rfl⟩ (Laid.zero _ _ _) c2
  have c11 : Steps p.tables e below (s₁.setTop (entryFrame m #[.ref b, .int (Int32.ofNat o), .ref d, .int (Int32.ofNat q), .int (Int32.ofNat len)] 7)) (T9.setTop (mkF m 46 #[.val (.ref b), .val (.int (Int32.ofNat (o + len))), .val (.ref d), .val (.int (Int32.ofNat (q + len))), .val (.int (Int32.ofNat len)), .val (.int (Int32.ofNat len)), z9] [.int (Int32.ofNat len)])) := g9.trans (by
    refine XS.iload X9.here hexec rfl (hb hbytes d3) rfl ?_
    refine XS.iload X9.here hexec rfl (hb hbytes d5) rfl ?_
    refine XS.icmpYes X9.here hexec rfl (pc0 := 7) rfl (hb hbytes d7) rfl (ii_ge_t (nlt32 (by omega) (Nat.le_refl _))) (by decide) rfl ?_
    refine XS.iload X9.here hexec rfl (hb hbytes d44) rfl ?_
    exact Steps.refl _)
  exact ⟨T9, some (.int (Int32.ofNat len)), _, _, _, X9, by simp, rfl, rfl, (fun h => by cases h), ⟨rfl, B9, p9.from hh0, f9⟩, fun fs hl => c11.trans (X9.ireturnOut hexec hret rfl (Or.inl rfl) (hb hbytes d46) hl)⟩
end Cmp5
namespace Cmp3
def yN : MethodName := ⟨"java/lang/StringUTF16", "compress", "([CII)[B"⟩
abbrev yB : ByteArray := jdk_52_method_16_code
theorem d0 : decode yB 0 = .ok (.iload_n 2, 1) := by decide +kernel
theorem d1 : decode yB 1 = .ok (.newarray .byte, 2) := by decide +kernel
theorem d3 : decode yB 3 = .ok (.astore_n 3, 1) := by decide +kernel
theorem d4 : decode yB 4 = .ok (.aload_n 0, 1) := by decide +kernel
theorem d5 : decode yB 5 = .ok (.iload_n 1, 1) := by decide +kernel
theorem d6 : decode yB 6 = .ok (.aload_n 3, 1) := by decide +kernel
theorem d7 : decode yB 7 = .ok (.iconst 0, 1) := by decide +kernel
theorem d8 : decode yB 8 = .ok (.iload_n 2, 1) := by decide +kernel
theorem d9 : decode yB 9 = .ok (.invokestatic 115, 3) := by decide +kernel
theorem d12 : decode yB 12 = .ok (.istore 4, 2) := by decide +kernel
theorem d14 : decode yB 14 = .ok (.iload 4, 2) := by decide +kernel
theorem d16 : decode yB 16 = .ok (.iload_n 2, 1) := by decide +kernel
theorem d17 : decode yB 17 = .ok (.if_icmp (.eq) 40, 3) := by decide +kernel
theorem d57 : decode yB 57 = .ok (.aload_n 3, 1) := by decide +kernel
theorem d58 : decode yB 58 = .ok (.areturn, 1) := by decide +kernel
def site : List Cond := [.arrayClass .byte, Cmp5.tab] ++ staticW U16 115 Cmp5.yN
def tab : Cond := tabOf yN yB 6 (some (.array .byte)) site
def P (b : Addr) (A : Cell) (o len : Nat) (args : Array Value) (s : State) : Prop := args = #[.ref b, .int (Int32.ofNat o), .int (Int32.ofNat len)] ∧ Ch b A s ∧ o + len ≤ A.slots.size ∧ len ≤ 536870912 ∧ ∀ i, i < len → ¬ 255 < cv A (o + i)
def E (b : Addr) (A : Cell) (o len : Nat) (r : Option Value) (s u : State) : Prop := NewArr .byte "[B" len (fun j => .int (lo8 (cv A (o + j)))) r s u ∧ u.heap.size = s.heap.size + 1
/-- no char of the range above 255: a new byte[] of their low bytes -/
theorem law (l : Launch) (b : Addr) (A : Cell) (o len : Nat) : Law l yN 3 3 1 18 yB 6 (some (.array .byte)) site (P b A o len) (E b A o len) [] 1 len := by
  refine Law.of_walk (plainFor_of_name (by decide +kernel)) (by decide +kernel) (by decide +kernel) (by decide) (fun _ _ h => by rw [h.1]; rfl) (fun _ U U' hal hh h => ⟨h.1, h.2.1.mv hal hh, h.2.2⟩) (fun r U U' V V' h1 hal h2 h => ⟨NewArr.mv r U U' V V' h1 hal h2 h.1, by rw [h1, h2]; exact h.2⟩) ?_
  intro p e s m args below meth c s₁ X0 hexec hbytes hml hret hlk hnm hown hh0 W hP
  obtain ⟨rfl, hA, l1, l2, hp⟩ := hP
  have a31 := hA.1.2.2.2
  have c1 : Steps p.tables e below (s₁.setTop (entryFrame m #[.ref b, .int (Int32.ofNat o), .int (Int32.ofNat len)] 6)) (s₁.setTop (mkF m 0 #[.val (.ref b), .val (.int (Int32.ofNat o)), .val (.int (Int32.ofNat len)), .unset, .unset, .unset] [])) := entry rfl
  have c2 : Steps p.tables e below (s₁.setTop (entryFrame m #[.ref b, .int (Int32.ofNat o), .int (Int32.ofNat len)] 6)) (s₁.setTop (mkF m 1 #[.val (.ref b), .val (.int (Int32.ofNat o)), .val (.int (Int32.ofNat len)), .unset, .unset, .unset] [.int (Int32.ofNat len)])) := c1.trans (by
    refine XS.iloadN X0.here hexec rfl (hb hbytes d0) rfl ?_
    exact Steps.refl _)
  obtain ⟨T3, B3, X3, ba3, bs3, bv3, bh3, bf3, st3⟩ := X0.anew hexec (atype := .byte) (wk W (.arrayClass .byte)) rfl (by show len * 1 ≤ _; omega) (by omega) (g := (mkF m 1 #[.val (.ref b), .val (.int (Int32.ofNat o)), .val (.int (Int32.ofNat len)), .unset, .unset, .unset] [.int (Int32.ofNat len)])) rfl (hb hbytes d1) (rest := []) rfl (Nat.le_refl _) (by show 0 + len ≤ len; omega)
  rw [hh0] at ba3 st3
  have kp3 : XT.Kept s T3 := (XT.Kept.of_eq hh0).push bh3
  have hA3 := hA.keep X3.warmed.alike (kp3 _ _ hA.1.1)
  have hne : b ≠ s.heap.size := hA.1.ne
  have c4 : Steps p.tables e below (s₁.setTop (entryFrame m #[.ref b, .int (Int32.ofNat o), .int (Int32.ofNat len)] 6)) (T3.setTop (mkF m 3 #[.val (.ref b), .val (.int (Int32.ofNat o)), .val (.int (Int32.ofNat len)), .unset, .unset, .unset] [.ref s.heap.size])) := c2.trans (st3 _ (Steps.refl _))
  have c5 : Steps p.tables e below (s₁.setTop (entryFrame m #[.ref b, .int (Int32.ofNat o), .int (Int32.ofNat len)] 6)) (T3.setTop (mkF m 9 #[.val (.ref b), .val (.int (Int32.ofNat o)), .val (.int (Int32.ofNat len)), .val (.ref s.heap.size), .unset, .unset] [.int (Int32.ofNat len), .int 0, .ref s.heap.size, .int (Int32.ofNat o), .ref b])) := c4.trans (by
    refine XS.astoreN X3.here hexec rfl (hb hbytes d3) rfl rfl rfl ?_
    refine XS.aloadN X3.here hexec rfl (hb hbytes d4) rfl rfl ?_
    refine XS.iloadN X3.here hexec rfl (hb hbytes d5) rfl ?_
    refine XS.aloadN X3.here hexec rfl (hb hbytes d6) rfl rfl ?_
    refine iconstV X3.here hexec rfl 0 (hb hbytes d7) (by decide) ?_
    refine XS.iloadN X3.here hexec rfl (hb hbytes d8) rfl ?_
    exact Steps.refl _)
  obtain ⟨v6, T6, X6, E6, g6⟩ := X3.callS hexec (Cmp5.law l b A s.heap.size B3 o 0 len) hown (wks W (staticW U16 115 Cmp5.yN)) (wk W Cmp5.tab) (W := 0) (Nat.le_of_ble_eq_true rfl) (Nat.le_of_ble_eq_true rfl) (Nat.le_refl _) (by show 0 + len + 0 ≤ len; omega) (g := (mkF m 9 #[.val (.ref b), .val (.int (Int32.ofNat o)), .val (.int (Int32.ofNat len)), .val (.ref s.heap.size), .unset, .unset] [.int (Int32.ofNat len), .int (Int32.ofNat 0), .ref s.heap.size, .int (Int32.ofNat o), .ref b])) rfl (by rw [hml]; rfl) c5 (argsL := [.ref b, .int (Int32.ofNat o), .ref s.heap.size, .int (Int32.ofNat 0), .int (Int32.ofNat len)]) (rest := []) rfl rfl (by show 2 * 0 + 0 ≤ _; decide) (hb hbytes d9) (⟨rfl, hA3, ba3, hne, l1, by rw [bs3]; simp, hp⟩)
  obtain ⟨rfl, B6, p6, f6⟩ := E6
  have c7 : Steps p.tables e below (s₁.setTop (entryFrame m #[.ref b, .int (Int32.ofNat o), .int (Int32.ofNat len)] 6)) (T6.setTop (mkF m 12 #[.val (.ref b), .val (.int (Int32.ofNat o)), .val (.int (Int32.ofNat len)), .val (.ref s.heap.size), .unset, .unset] [.int (Int32.ofNat len)])) := g6
  have c8 : Steps p.tables e below (s₁.setTop (entryFrame m #[.ref b, .int (Int32.ofNat o), .int (Int32.ofNat len)] 6)) (T6.setTop (mkF m 58 #[.val (.ref b), .val (.int (Int32.ofNat o)), .val (.int (Int32.ofNat len)), .val (.ref s.heap.size), .val (.int (Int32.ofNat len)), .unset] [.ref s.heap.size])) := c7.trans (by
    refine XS.istore X6.here hexec rfl (hb hbytes d12) rfl rfl ?_
    refine XS.iload X6.here hexec rfl (hb hbytes d14) rfl ?_
    refine XS.iloadN X6.here hexec rfl (hb hbytes d16) rfl ?_
    refine XS.icmpYes X6.here hexec rfl (pc0 := 17) rfl (hb hbytes d17) rfl (ii_eq_t rfl) (by decide) rfl ?_
    refine XS.aloadN X6.here hexec rfl (hb hbytes d57) rfl rfl ?_
    exact Steps.refl _)
  have X8 := X6.wide (L' := []) (cells' := 1) (slots' := len) (fun x hx hlt => by
    simp only [List.nil_append, copyLocs, List.mem_map, List.mem_range] at hx
    obtain ⟨i, -, rfl⟩ := hx
    exact absurd hlt (Nat.lt_irrefl _)) (Nat.le_refl _) (by omega)
  exact ⟨T6, some (.ref s.heap.size), _, _, _, X8, rfl, rfl, rfl, (fun h => by cases h), ⟨⟨rfl, B6, ba3.like (X3.warmed.alike.symm.trans X6.warmed.alike) p6.1 f6.1 f6.2.1 f6.2.2.1, f6.2.1.trans bv3, by rw [X6.warmed.alike.findClass, f6.1]; exact bf3, by rw [f6.2.2.1, bs3]; simp, fun j hj => by rw [f6.2.2.2 j, if_pos (by omega)]; rfl, kp3.put p6 (Nat.le_refl _)⟩, by rw [p6.2.2, bh3, hh0]; simp⟩, fun fs hl => c8.trans (X8.areturnOut hexec rfl hret rfl (hb hbytes d58) hl)⟩
end Cmp3
namespace CodL
def yN : MethodName := ⟨"java/lang/StringUTF16", "coderFromArrayLen", "([BI)B"⟩
abbrev yB : ByteArray := jdk_52_method_15_code
theorem d0 : decode yB 0 = .ok (.iload_n 1, 1) := by decide +kernel
theorem d1 : decode yB 1 = .ok (.aload_n 0, 1) := by decide +kernel
theorem d2 : decode yB 2 = .ok (.arraylength, 1) := by decide +kernel
theorem d3 : decode yB 3 = .ok (.isub, 1) := by decide +kernel
theorem d4 : decode yB 4 = .ok (.bipush 31, 2) := by decide +kernel
theorem d6 : decode yB 6 = .ok (.iushr, 1) := by decide +kernel
theorem d7 : decode yB 7 = .ok (.i2b, 1) := by decide +kernel
theorem d8 : decode yB 8 = .ok (.ireturn, 1) := by decide +kernel
def site : List Cond := []
def tab : Cond := tabOf yN yB 2 (some .byte) site
def P (d : Addr) (B : Cell) (args : Array Value) (s : State) : Prop := args = #[.ref d, .int (Int32.ofNat B.slots.size)] ∧ Arr .byte d B s
def E (r : Option Value) (s u : State) : Prop := XT.PureE (some (.int 0)) r s u
/-- an array as long as the number of chars: LATIN1 -/
theorem law (l : Launch) (d : Addr) (B : Cell) : Law l yN 2 2 0 0 yB 2 (some .byte) site (P d B) E [] 0 0 := by
  refine Law.of_walk (plainFor_of_name (by decide +kernel)) (by decide +kernel) (by decide +kernel) (by decide) (fun _ _ h => by rw [h.1]; rfl) (fun _ U U' hal hh h => ⟨h.1, h.2.mv hal hh⟩) (fun r U U' V V' h1 hal h2 h => XT.PureE.mv r U U' V V' h1 hal h2 h) ?_
  intro p e s m args below meth c s₁ X0 hexec hbytes hml hret hlk hnm hown hh0 W hP
  obtain ⟨rfl, hB⟩ := hP
  have hB0 := hB.mv X0.warmed.alike hh0
  have c1 : Steps p.tables e below (s₁.setTop (entryFrame m #[.ref d, .int (Int32.ofNat B.slots.size)] 2)) (s₁.setTop (mkF m 0 #[.val (.ref d), .val (.int (Int32.ofNat B.slots.size))] [])) := entry rfl
  have c2 : Steps p.tables e below (s₁.setTop (entryFrame m #[.ref d, .int (Int32.ofNat B.slots.size)] 2)) (s₁.setTop (mkF m 2 #[.val (.ref d), .val (.int (Int32.ofNat B.slots.size))] [.ref d, .int (Int32.ofNat B.slots.size)])) := c1.trans (by
    refine XS.iloadN X0.here hexec rfl (hb hbytes d0) rfl ?_
    refine XS.aloadN X0.here hexec rfl (hb hbytes d1) rfl rfl ?_
    exact Steps.refl _)
  have c3 : Steps p.tables e below (s₁.setTop (entryFrame m #[.ref d, .int (Int32.ofNat B.slots.size)] 2)) (s₁.setTop (mkF m 8 #[.val (.ref d), .val (.int (Int32.ofNat B.slots.size))] [.int (lo8 (ushr (Int32.ofNat B.slots.size - Int32.ofNat B.slots.size) 31))])) := c2.trans (by
    refine X0.alen hexec hB0 rfl rfl (hb hbytes d2) ?_
    refine XS.isub X0.here hexec rfl (hb hbytes d3) rfl ?_
    refine bipushV X0.here hexec rfl 31 (hb hbytes d4) (by decide) ?_
    refine iushr X0.here hexec rfl (hb hbytes d6) rfl ?_
    refine i2b X0.here hexec rfl (hb hbytes d7) rfl ?_
    exact Steps.refl _)
  have e0 : lo8 (ushr (Int32.ofNat B.slots.size - Int32.ofNat B.slots.size) 31) = 0 := by rw [Int32.sub_self]; decide
  rw [e0] at c3
  exact ⟨s₁, some (.int 0), _, _, _, X0, rfl, rfl, rfl, (fun h => by cases h), ⟨rfl, hh0⟩, fun fs hl => c3.trans (X0.ireturnOut hexec hret rfl (Or.inr (Or.inr (Or.inl rfl))) (hb hbytes d8) hl)⟩
end CodL
/-- the String at a is Latin-1 over a new byte[] (the heap's one new cell): the low bytes of the len chars of A from o on; every cell but a is kept -/
def Got (a : Addr) (D : Cell) (fV fC : Field) (A : Cell) (o len : Nat) (r : Option Value) (s u : State) : Prop := r = none ∧ ∃ D' V : Cell, Blank "java/lang/String" a D' u ∧ Same D D' [fV.slot, fC.slot] ∧ D'.slots[fV.slot]? = some (.ref s.heap.size) ∧ D'.slots[fC.slot]? = some (.int 0) ∧ Arr .byte s.heap.size V u ∧ V.vm = .none ∧ u.vm.findClass "[B" = some V.cls ∧ V.slots.size = len ∧ (∀ j, j < len → V.slots[j]? = some (.int (lo8 (cv A (o + j))))) ∧ (∀ (y : Addr) (c : Cell), y ≠ a → s.heap[y]? = some c → u.heap[y]? = some c) ∧ u.heap.size = s.heap.size + 1
theorem Got.mv {a : Addr} {D A : Cell} {fV fC : Field} {o len : Nat} : ∀ r (U U' V V' : State), U'.heap = U.heap → V.vm.Alike V'.vm → V'.heap = V.heap → Got a D fV fC A o len r U V → Got a D fV fC A o len r U' V' :=
  fun r U U' V V' h1 hal h2 ⟨e0, D', X, a1, a2, a3, a4, a5, a6, a7, a8, a9, a10, a11⟩ => ⟨e0, D', X, a1.mv hal h2, a2, by rw [h1]; exact a3, a4, by rw [h1]; exact a5.mv hal h2, a6, by rw [hal.findClass]; exact a7, a8, a9, by rw [h1, h2]; exact a10, by rw [h1, h2]; exact a11⟩
namespace New4
def yN : MethodName := ⟨"java/lang/String", "<init>", "([CIILjava/lang/Void;)V"⟩
abbrev yB : ByteArray := jdk_42_method_149_code
theorem d0 : decode yB 0 = .ok (.aload_n 0, 1) := by decide +kernel
theorem d1 : decode yB 1 = .ok (.invokespecial 1, 3) := by decide +kernel
theorem d4 : decode yB 4 = .ok (.iload_n 3, 1) := by decide +kernel
theorem d5 : decode yB 5 = .ok (.ifCond (.ne) 22, 3) := by decide +kernel
theorem d27 : decode yB 27 = .ok (.getstatic 38, 3) := by decide +kernel
theorem d30 : decode yB 30 = .ok (.ifCond (.eq) 28, 3) := by decide +kernel
theorem d33 : decode yB 33 = .ok (.aload_n 1, 1) := by decide +kernel
theorem d34 : decode yB 34 = .ok (.iload_n 2, 1) := by decide +kernel
theorem d35 : decode yB 35 = .ok (.iload_n 3, 1) := by decide +kernel
theorem d36 : decode yB 36 = .ok (.invokestatic 177, 3) := by decide +kernel
theorem d39 : decode yB 39 = .ok (.astore 5, 2) := by decide +kernel
theorem d41 : decode yB 41 = .ok (.aload_n 0, 1) := by decide +kernel
theorem d42 : decode yB 42 = .ok (.aload 5, 2) := by decide +kernel
theorem d44 : decode yB 44 = .ok (.iload_n 3, 1) := by decide +kernel
theorem d45 : decode yB 45 = .ok (.invokestatic 47, 3) := by decide +kernel
theorem d48 : decode yB 48 = .ok (.putfield 15, 3) := by decide +kernel
theorem d51 : decode yB 51 = .ok (.aload_n 0, 1) := by decide +kernel
theorem d52 : decode yB 52 = .ok (.aload 5, 2) := by decide +kernel
theorem d54 : decode yB 54 = .ok (.putfield 9, 3) := by decide +kernel
theorem d57 : decode yB 57 = .ok (.return_, 1) := by decide +kernel
def site : List Cond := [.fieldLink "java/lang/String" 38 "java/lang/String" "COMPACT_STRINGS" "Z", Cmp3.tab, CodL.tab, .laysFinal "java/lang/String" "java/lang/String" "value" "[B", .fieldLink "java/lang/String" 9 "java/lang/String" "value" "[B", .laysFinal "java/lang/String" "java/lang/String" "coder" "B", .fieldLink "java/lang/String" 15 "java/lang/String" "coder" "B"] ++ objW "java/lang/String" 1 ++ staticW "java/lang/String" 177 Cmp3.yN ++ staticW "java/lang/String" 47 CodL.yN
def tab : Cond := tabOf yN yB 6 none site
def P (a : Addr) (D : Cell) (fV fC : Field) (b : Addr) (A : Cell) (z : Int32) (o len : Nat) (args : Array Value) (s : State) : Prop := args = #[.ref a, .ref b, .int (Int32.ofNat o), .int (Int32.ofNat len), .null] ∧ Blank "java/lang/String" a D s ∧ Found "java/lang/String" "value" "[B" fV s ∧ Found "java/lang/String" "coder" "B" fC s ∧ Ch b A s ∧ StaticIs s "java/lang/String" "COMPACT_STRINGS" "Z" (.int z) ∧ ¬ z = 0 ∧ 0 < len ∧ o + len ≤ A.slots.size ∧ len ≤ 536870912 ∧ ∀ i, i < len → ¬ 255 < cv A (o + i)
def E (a : Addr) (D : Cell) (fV fC : Field) (A : Cell) (o len : Nat) (r : Option Value) (s u : State) : Prop := Got a D fV fC A o len r s u
/-- len > 0, no char of the range above 255: a Latin-1 String of their low bytes -/
theorem law (l : Launch) (a : Addr) (D : Cell) (fV fC : Field) (b : Addr) (A : Cell) (z : Int32) (o len : Nat) : Law l yN 5 4 2 35 yB 6 none site (P a D fV fC b A z o len) (E a D fV fC A o len) [⟨a, fC.slot⟩, ⟨a, fV.slot⟩] 1 len := by
  refine Law.of_walk (plainFor_of_name (by decide +kernel)) (by decide +kernel) (by decide +kernel) (by decide) (fun _ _ h => by rw [h.1]; rfl) (fun _ U U' hal hh h => ⟨h.1, h.2.1.mv hal hh, h.2.2.1.al hal, h.2.2.2.1.al hal, h.2.2.2.2.1.mv hal hh, h.2.2.2.2.2.1.there hal hh, h.2.2.2.2.2.2⟩) (fun r U U' V V' h1 hal h2 h => Got.mv r U U' V V' h1 hal h2 h) ?_
  intro p e s m args below meth c s₁ X0 hexec hbytes hml hret hlk hnm hown hh0 W hP
  obtain ⟨rfl, hB, f1, f2, hA, s1, hz, l0, l1, l2, hp⟩ := hP
  have a31 := hA.1.2.2.2
  have c1 : Steps p.tables e below (s₁.setTop (entryFrame m #[.ref a, .ref b, .int (Int32.ofNat o), .int (Int32.ofNat len), .null] 6)) (s₁.setTop (mkF m 0 #[.val (.ref a), .val (.ref b), .val (.int (Int32.ofNat o)), .val (.int (Int32.ofNat len)), .val .null, .unset] [])) := entry rfl
  have c2 : Steps p.tables e below (s₁.setTop (entryFrame m #[.ref a, .ref b, .int (Int32.ofNat o), .int (Int32.ofNat len), .null] 6)) (s₁.setTop (mkF m 1 #[.val (.ref a), .val (.ref b), .val (.int (Int32.ofNat o)), .val (.int (Int32.ofNat len)), .val .null, .unset] [.ref a])) := c1.trans (by
    refine XS.aloadN X0.here hexec rfl (hb hbytes d0) rfl rfl ?_
    exact Steps.refl _)
  obtain ⟨T3, X3, q3, st3⟩ := X0.oinit hexec hown (wks W (objW "java/lang/String" 1)) (g := (mkF m 1 #[.val (.ref a), .val (.ref b), .val (.int (Int32.ofNat o)), .val (.int (Int32.ofNat len)), .val .null, .unset] [.ref a])) rfl (by rw [hml]; rfl) (rest := []) rfl (hb hbytes d1) (W := 0) (by show 2 * 0 + 0 ≤ _; decide) (Nat.le_of_ble_eq_true rfl) (Nat.le_of_ble_eq_true rfl)
  have hh3 := q3.trans hh0
  have c4 : Steps p.tables e below (s₁.setTop (entryFrame m #[.ref a, .ref b, .int (Int32.ofNat o), .int (Int32.ofNat len), .null] 6)) (T3.setTop (mkF m 27 #[.val (.ref a), .val (.ref b), .val (.int (Int32.ofNat o)), .val (.int (Int32.ofNat len)), .val .null, .unset] [])) := (c2.trans (st3 _ (Steps.refl _))).trans (by
    refine XS.iloadN X3.here hexec rfl (hb hbytes d4) rfl ?_
    refine XS.ifYes X3.here hexec rfl (pc0 := 5) rfl (hb hbytes d5) rfl (i0_ne_t (nz32 (by omega) l0)) (by decide) rfl ?_
    exact Steps.refl _)
  obtain ⟨T5, X5, q5, st5⟩ := X3.sget hexec hown (wk W (.fieldLink "java/lang/String" 38 "java/lang/String" "COMPACT_STRINGS" "Z")) s1 (fun _ _ h => by rw [hh3]; exact h) (g := (mkF m 27 #[.val (.ref a), .val (.ref b), .val (.int (Int32.ofNat o)), .val (.int (Int32.ofNat len)), .val .null, .unset] [])) rfl (hb hbytes d27)
  have hh5 := q5.trans hh3
  have c6 : Steps p.tables e below (s₁.setTop (entryFrame m #[.ref a, .ref b, .int (Int32.ofNat o), .int (Int32.ofNat len), .null] 6)) (T5.setTop (mkF m 30 #[.val (.ref a), .val (.ref b), .val (.int (Int32.ofNat o)), .val (.int (Int32.ofNat len)), .val .null, .unset] [.int z])) := c4.trans (st5 _ (Steps.refl _))
  have c7 : Steps p.tables e below (s₁.setTop (entryFrame m #[.ref a, .ref b, .int (Int32.ofNat o), .int (Int32.ofNat len), .null] 6)) (T5.setTop (mkF m 36 #[.val (.ref a), .val (.ref b), .val (.int (Int32.ofNat o)), .val (.int (Int32.ofNat len)), .val .null, .unset] [.int (Int32.ofNat len), .int (Int32.ofNat o), .ref b])) := c6.trans (by
    refine XS.ifNo X5.here hexec rfl (hb hbytes d30) rfl (i0_eq_f hz) ?_
    refine XS.aloadN X5.here hexec rfl (hb hbytes d33) rfl rfl ?_
    refine XS.iloadN X5.here hexec rfl (hb hbytes d34) rfl ?_
    refine XS.iloadN X5.here hexec rfl (hb hbytes d35) rfl ?_
    exact Steps.refl _)
  obtain ⟨v8, T8, X8, E8, g8⟩ := X5.callS hexec (Cmp3.law l b A o len) hown (wks W (staticW "java/lang/String" 177 Cmp3.yN)) (wk W Cmp3.tab) (W := 0) (Nat.le_of_ble_eq_true rfl) (Nat.le_of_ble_eq_true rfl) (Nat.le_refl _) (by show 0 + len ≤ len; omega) (g := (mkF m 36 #[.val (.ref a), .val (.ref b), .val (.int (Int32.ofNat o)), .val (.int (Int32.ofNat len)), .val .null, .unset] [.int (Int32.ofNat len), .int (Int32.ofNat o), .ref b])) rfl (by rw [hml]; rfl) c7 (argsL := [.ref b, .int (Int32.ofNat o), .int (Int32.ofNat len)]) (rest := []) rfl rfl (by show 2 * 0 + 0 ≤ _; decide) (hb hbytes d36) (⟨rfl, hA.mv X5.warmed.alike hh5, l1, l2, hp⟩)
  obtain ⟨e8, z8⟩ := E8
  obtain ⟨rfl, N, n1, n2, n3, n4, n5, n6⟩ := NewArr.mv _ T5 s _ _ hh5.symm (Vm.Alike.refl _) rfl e8
  rw [hh5] at z8
  have hB1 := hB.keep X8.warmed.alike (n6 _ _ hB.1)
  have hne : s.heap.size ≠ a := (Nat.ne_of_lt (Array.getElem?_eq_some_iff.mp hB.1).1).symm
  have c9 : Steps p.tables e below (s₁.setTop (entryFrame m #[.ref a, .ref b, .int (Int32.ofNat o), .int (Int32.ofNat len), .null] 6)) (T8.setTop (mkF m 39 #[.val (.ref a), .val (.ref b), .val (.int (Int32.ofNat o)), .val (.int (Int32.ofNat len)), .val .null, .unset] [.ref s.heap.size])) := g8
  have c10 : Steps p.tables e below (s₁.setTop (entryFrame m #[.ref a, .ref b, .int (Int32.ofNat o), .int (Int32.ofNat len), .null] 6)) (T8.setTop (mkF m 45 #[.val (.ref a), .val (.ref b), .val (.int (Int32.ofNat o)), .val (.int (Int32.ofNat len)), .val .null, .val (.ref s.heap.size)] [.int (Int32.ofNat N.slots.size), .ref s.heap.size, .ref a])) := by
    have hc : Steps p.tables e below (s₁.setTop (entryFrame m #[.ref a, .ref b, .int (Int32.ofNat o), .int (Int32.ofNat len), .null] 6)) (T8.setTop (mkF m 45 #[.val (.ref a), .val (.ref b), .val (.int (Int32.ofNat o)), .val (.int (Int32.ofNat len)), .val .null, .val (.ref s.heap.size)] [.int (Int32.ofNat len), .ref s.heap.size, .ref a])) := c9.trans (by
      refine XS.astore X8.here hexec rfl (hb hbytes d39) rfl rfl rfl ?_
      refine XS.aloadN X8.here hexec rfl (hb hbytes d41) rfl rfl ?_
      refine XS.aload X8.here hexec rfl (hb hbytes d42) rfl rfl ?_
      refine XS.iloadN X8.here hexec rfl (hb hbytes d44) rfl ?_
      exact Steps.refl _)
    rw [n4]; exact hc
  obtain ⟨v11, T11, X11, E11, g11⟩ := X8.callS hexec (CodL.law l s.heap.size N) hown (wks W (staticW "java/lang/String" 47 CodL.yN)) (wk W CodL.tab) (W := 1) (Nat.le_of_ble_eq_true rfl) (Nat.le_of_ble_eq_true rfl) (Nat.le_refl _) (by show 0 + len + 0 ≤ len; omega) (g := (mkF m 45 #[.val (.ref a), .val (.ref b), .val (.int (Int32.ofNat o)), .val (.int (Int32.ofNat len)), .val .null, .val (.ref s.heap.size)] [.int (Int32.ofNat N.slots.size), .ref s.heap.size, .ref a])) rfl (by rw [hml]; rfl) c10 (argsL := [.ref s.heap.size, .int (Int32.ofNat N.slots.size)]) (rest := [.ref a]) rfl rfl (by show 2 * 0 + (1 + 0) ≤ _; decide) (hb hbytes d45) (⟨rfl, n1⟩)
  obtain ⟨rfl, q11⟩ := E11
  have hB11 := hB1.mv (X8.warmed.alike.symm.trans X11.warmed.alike) q11
  have c12 : Steps p.tables e below (s₁.setTop (entryFrame m #[.ref a, .ref b, .int (Int32.ofNat o), .int (Int32.ofNat len), .null] 6)) (T11.setTop (mkF m 48 #[.val (.ref a), .val (.ref b), .val (.int (Int32.ofNat o)), .val (.int (Int32.ofNat len)), .val .null, .val (.ref s.heap.size)] [.int 0, .ref a])) := g11
  obtain ⟨T13, X13, p13, bl13, sl13, st13⟩ := X11.finit hexec hown (wk W (.fieldLink "java/lang/String" 15 "java/lang/String" "coder" "B")) (Or.inr ⟨_, (wk W (.laysFinal "java/lang/String" "java/lang/String" "coder" "B"))⟩) (Or.inl ⟨rfl, hnm⟩) f2 (Or.inl rfl) hB11 (t := .byte) (by decide +kernel) rfl (g := (mkF m 48 #[.val (.ref a), .val (.ref b), .val (.int (Int32.ofNat o)), .val (.int (Int32.ofNat len)), .val .null, .val (.ref s.heap.size)] [.int 0, .ref a])) rfl (rest := []) rfl (hb hbytes d48)
  have c14 : Steps p.tables e below (s₁.setTop (entryFrame m #[.ref a, .ref b, .int (Int32.ofNat o), .int (Int32.ofNat len), .null] 6)) (T13.setTop (mkF m 54 #[.val (.ref a), .val (.ref b), .val (.int (Int32.ofNat o)), .val (.int (Int32.ofNat len)), .val .null, .val (.ref s.heap.size)] [.ref s.heap.size, .ref a])) := (c12.trans (st13 _ (Steps.refl _))).trans (by
    refine XS.aloadN X13.here hexec rfl (hb hbytes d51) rfl rfl ?_
    refine XS.aload X13.here hexec rfl (hb hbytes d52) rfl rfl ?_
    exact Steps.refl _)
  obtain ⟨T15, X15, p15, bl15, sl15, st15⟩ := X13.finit hexec hown (wk W (.fieldLink "java/lang/String" 9 "java/lang/String" "value" "[B")) (Or.inr ⟨_, (wk W (.laysFinal "java/lang/String" "java/lang/String" "value" "[B"))⟩) (Or.inl ⟨rfl, hnm⟩) f1 (Or.inl rfl) bl13 (t := (.array .byte)) (by decide +kernel) rfl (g := (mkF m 54 #[.val (.ref a), .val (.ref b), .val (.int (Int32.ofNat o)), .val (.int (Int32.ofNat len)), .val .null, .val (.ref s.heap.size)] [.ref s.heap.size, .ref a])) rfl (rest := []) rfl (hb hbytes d54)
  have c16 : Steps p.tables e below (s₁.setTop (entryFrame m #[.ref a, .ref b, .int (Int32.ofNat o), .int (Int32.ofNat len), .null] 6)) (T15.setTop (mkF m 57 #[.val (.ref a), .val (.ref b), .val (.int (Int32.ofNat o)), .val (.int (Int32.ofNat len)), .val .null, .val (.ref s.heap.size)] [])) := c14.trans (st15 _ (Steps.refl _))
  have ap := apart (Or.inr ⟨_, (wk W (.laysFinal "java/lang/String" "java/lang/String" "value" "[B"))⟩) (Or.inr ⟨_, (wk W (.laysFinal "java/lang/String" "java/lang/String" "coder" "B"))⟩) f1 f2 (t₁ := .array .byte) (t₂ := .byte) (by decide +kernel) (by decide +kernel) (by decide)
  have al := X8.warmed.alike.symm.trans X15.warmed.alike
  have n7 : T11.heap[s.heap.size]? = some N := by rw [q11]; exact n1.1
  exact ⟨T15, none, _, _, _, X15, by simp, rfl, by omega, (fun _ => rfl), ⟨rfl, _, N, bl15, ((Same.refl D _).set _ (by simp)).set _ (by simp), sl15, (Cell.slots_setSlot_ne _ ap).trans sl13, n1.keep al (p15.other hne (p13.other hne n7)), n2, by rw [al.findClass]; exact n3, n4, n5, fun y c h1 h2 => p15.other h1 (p13.other h1 (by rw [q11]; exact n6 y c h2)), by rw [p15.2.2, p13.2.2, q11]; exact z8⟩, fun fs hl => c16.trans (X15.returnOut hexec hret (hb hbytes d57) hl)⟩
end New4
namespace New1
def yN : MethodName := ⟨"java/lang/String", "<init>", "([C)V"⟩
abbrev yB : ByteArray := jdk_42_method_3_code
theorem d0 : decode yB 0 = .ok (.aload_n 0, 1) := by decide +kernel
theorem d1 : decode yB 1 = .ok (.aload_n 1, 1) := by decide +kernel
theorem d2 : decode yB 2 = .ok (.iconst 0, 1) := by decide +kernel
theorem d3 : decode yB 3 = .ok (.aload_n 1, 1) := by decide +kernel
theorem d4 : decode yB 4 = .ok (.arraylength, 1) := by decide +kernel
theorem d5 : decode yB 5 = .ok (.aconst_null, 1) := by decide +kernel
theorem d6 : decode yB 6 = .ok (.invokespecial 27, 3) := by decide +kernel
theorem d9 : decode yB 9 = .ok (.return_, 1) := by decide +kernel
def site : List Cond := [New4.tab] ++ initW "java/lang/String" 27 New4.yN
def tab : Cond := tabOf yN yB 2 none site
def P (a : Addr) (D : Cell) (fV fC : Field) (b : Addr) (A : Cell) (z : Int32) (args : Array Value) (s : State) : Prop := args = #[.ref a, .ref b] ∧ Blank "java/lang/String" a D s ∧ Found "java/lang/String" "value" "[B" fV s ∧ Found "java/lang/String" "coder" "B" fC s ∧ Ch b A s ∧ StaticIs s "java/lang/String" "COMPACT_STRINGS" "Z" (.int z) ∧ ¬ z = 0 ∧ 0 < A.slots.size ∧ A.slots.size ≤ 536870912 ∧ ∀ i, i < A.slots.size → ¬ 255 < cv A i
def E (a : Addr) (D : Cell) (fV fC : Field) (A : Cell) (r : Option Value) (s u : State) : Prop := Got a D fV fC A 0 A.slots.size r s u
/-- new String(chars), not empty, no char above 255: a Latin-1 String of their low bytes -/
theorem law (l : Launch) (a : Addr) (D : Cell) (fV fC : Field) (b : Addr) (A : Cell) (z : Int32) : Law l yN 2 1 3 52 yB 2 none site (P a D fV fC b A z) (E a D fV fC A) [⟨a, fC.slot⟩, ⟨a, fV.slot⟩] 1 A.slots.size := by
  refine Law.of_walk (plainFor_of_name (by decide +kernel)) (by decide +kernel) (by decide +kernel) (by decide) (fun _ _ h => by rw [h.1]; rfl) (fun _ U U' hal hh h => ⟨h.1, h.2.1.mv hal hh, h.2.2.1.al hal, h.2.2.2.1.al hal, h.2.2.2.2.1.mv hal hh, h.2.2.2.2.2.1.there hal hh, h.2.2.2.2.2.2⟩) (fun r U U' V V' h1 hal h2 h => Got.mv r U U' V V' h1 hal h2 h) ?_
  intro p e s m args below meth c s₁ X0 hexec hbytes hml hret hlk hnm hown hh0 W hP
  obtain ⟨rfl, hB, f1, f2, hA, s1, hz, l0, l2, hp⟩ := hP
  have c1 : Steps p.tables e below (s₁.setTop (entryFrame m #[.ref a, .ref b] 2)) (s₁.setTop (mkF m 0 #[.val (.ref a), .val (.ref b)] [])) := entry rfl
  have c2 : Steps p.tables e below (s₁.setTop (entryFrame m #[.ref a, .ref b] 2)) (s₁.setTop (mkF m 6 #[.val (.ref a), .val (.ref b)] [.null, .int (Int32.ofNat A.slots.size), .int 0, .ref b, .ref a])) := c1.trans (by
    refine XS.aloadN X0.here hexec rfl (hb hbytes d0) rfl rfl ?_
    refine XS.aloadN X0.here hexec rfl (hb hbytes d1) rfl rfl ?_
    refine iconstV X0.here hexec rfl 0 (hb hbytes d2) (by decide) ?_
    refine XS.aloadN X0.here hexec rfl (hb hbytes d3) rfl rfl ?_
    refine X0.alen hexec (hA.1.mv X0.warmed.alike hh0) rfl rfl (hb hbytes d4) ?_
    refine XS.aconstNull X0.here hexec rfl (hb hbytes d5) ?_
    exact Steps.refl _)
  obtain ⟨v3, T3, X3, E3, g3⟩ := X0.callN hexec (New4.law l a D fV fC b A z 0 A.slots.size) rfl hown (wks W (initW "java/lang/String" 27 New4.yN)) (W New4.tab (by simp only [site, List.mem_cons, List.mem_append, true_or, or_true])) (W := 0) (Nat.le_of_ble_eq_true rfl) (Nat.le_of_ble_eq_true rfl) (Nat.le_refl _) (by show 0 + A.slots.size ≤ A.slots.size; omega) (g := (mkF m 6 #[.val (.ref a), .val (.ref b)] [.null, .int (Int32.ofNat A.slots.size), .int (Int32.ofNat 0), .ref b, .ref a])) rfl (by rw [hml]; rfl) c2 (argsL := [.ref b, .int (Int32.ofNat 0), .int (Int32.ofNat A.slots.size), .null]) (rest := []) rfl rfl (by show 2 * 0 + 0 ≤ _; decide) (hb hbytes d6) (⟨rfl, hB.mv X0.warmed.alike hh0, f1.al X0.warmed.alike, f2.al X0.warmed.alike, hA.mv X0.warmed.alike hh0, s1.there X0.warmed.alike hh0, hz, l0, by omega, l2, fun i hi => by rw [Nat.zero_add]; exact hp i hi⟩)
  have e0 := Got.mv _ s₁ s _ _ hh0.symm (Vm.Alike.refl _) rfl E3
  obtain rfl := e0.1
  have c4 : Steps p.tables e below (s₁.setTop (entryFrame m #[.ref a, .ref b] 2)) (T3.setTop (mkF m 9 #[.val (.ref a), .val (.ref b)] [])) := g3
  exact ⟨T3, none, _, _, _, X3, by simp, rfl, by omega, (fun _ => rfl), e0, fun fs hl => c4.trans (X3.returnOut hexec hret (hb hbytes d9) hl)⟩
theorem pays {l : Launch} {R : Room} {p : Program} {e : Env} {below : List Frame} {s : State} {sargs : Array Value} {len W : Nat} (a : Addr) (D : Cell) (fV fC : Field) (b : Addr) (A : Cell) (z : Int32) (htab : tab.before sargs s = true) (hfr : 4 ≤ R.frames) (hlo : W + 65 ≤ R.locals) :
    Back l R p e below s sargs yN len W (fun A₁ a₁ => A₁.cells + 1 ≤ R.cells ∧ A₁.slots + A.slots.size ≤ R.slots ∧ P a D fV fC b A z a₁ A₁.U) (fun A₁ _ v₁ B₁ => E a D fV fC A v₁ A₁.U B₁.U ∧ B₁.locs = A₁.locs ++ [⟨a, fC.slot⟩, ⟨a, fV.slot⟩] ∧ B₁.cells = A₁.cells + 1 ∧ B₁.slots = A₁.slots + A.slots.size) :=
  (law l a D fV fC b A z).pays htab hfr (by omega)
end New1
/-- the byte, read back as charAt reads it, is the char -/
theorem lo8_mask {x : Int32} (h0 : ¬ x < 0) (h1 : ¬ 255 < x) : lo8 x &&& 255 = x := by
  have t : ∀ k : Fin 256, lo8 (Int32.ofNat k.val) &&& 255 = Int32.ofNat k.val := by decide +kernel
  rw [Int32.lt_iff_toInt_lt] at h0 h1
  have e0 : (0 : Int32).toInt = 0 := rfl
  have e1 : (255 : Int32).toInt = 255 := rfl
  obtain ⟨k, hk⟩ : ∃ k : Nat, x.toInt = k := ⟨x.toInt.toNat, by omega⟩
  have hx : x = Int32.ofNat k := Int32.toInt_inj.mp (by rw [hk, Int32.toInt_ofNat_small (by omega)])
  rw [hx]
  exact t ⟨k, by omega⟩
end StrChars
namespace StrChars.Road
open Jvm Sem ClassFile Op Lib Jvm.Stand Jvm.Free Jvm.Free.XT
open Jvm.Lib.Cold (StaticIs)
abbrev ST : String := "java/lang/String"
/-- every table word that New1's law asks, flat -/
abbrev words : List Jvm.Cond := [.code New1.yN New1.yB 2 none, .initialized ST, .methodLink ST 27 New4.yN, .instanceMethod New4.yN,
  .code New4.yN New4.yB 6 none, .fieldLink ST 38 ST "COMPACT_STRINGS" "Z", .laysFinal ST ST "value" "[B", .fieldLink ST 9 ST "value" "[B", .laysFinal ST ST "coder" "B", .fieldLink ST 15 ST "coder" "B",
  .methodLink ST 1 Lib.objectInit, .instanceMethod Lib.objectInit, .code Lib.objectInit ⟨#[0xb1]⟩ 1 none, .methodLink ST 177 Cmp3.yN, .static Cmp3.yN, .methodLink ST 47 CodL.yN, .static CodL.yN,
  .code Cmp3.yN Cmp3.yB 6 (some (.array .byte)), .initialized U16, .arrayClass .byte, .methodLink U16 115 Cmp5.yN, .static Cmp5.yN, .code Cmp5.yN Cmp5.yB 7 (some .int), .code CodL.yN CodL.yB 2 (some .byte)]
theorem tab_of {a : Array Value} {s : State} (h : ∀ w ∈ words, w.before a s = true) : New1.tab.before a s = true := by
  have h5 : Cmp5.tab.before a s = true := unparts (wk h (.code Cmp5.yN Cmp5.yB 7 (some .int))) (wks h (.initialized Cmp5.yN.cls :: Cmp5.site))
  have hc : CodL.tab.before a s = true := unparts (wk h (.code CodL.yN CodL.yB 2 (some .byte))) (wks h (.initialized CodL.yN.cls :: CodL.site))
  have q5 : ∀ w ∈ Cmp5.tab :: words, w.before a s = true := fun w hw => (List.mem_cons.mp hw).elim (fun e => e ▸ h5) (h w)
  have h3 : Cmp3.tab.before a s = true := unparts (wk q5 (.code Cmp3.yN Cmp3.yB 6 (some (.array .byte)))) (wks q5 (.initialized Cmp3.yN.cls :: Cmp3.site))
  have q3 : ∀ w ∈ Cmp3.tab :: CodL.tab :: words, w.before a s = true := fun w hw => (List.mem_cons.mp hw).elim (fun e => e ▸ h3) fun hw => (List.mem_cons.mp hw).elim (fun e => e ▸ hc) (h w)
  have h4 : New4.tab.before a s = true := unparts (wk q3 (.code New4.yN New4.yB 6 none)) (wks q3 (.initialized New4.yN.cls :: New4.site))
  have q4 : ∀ w ∈ New4.tab :: words, w.before a s = true := fun w hw => (List.mem_cons.mp hw).elim (fun e => e ▸ h4) (h w)
  exact unparts (wk q4 (.code New1.yN New1.yB 2 none)) (wks q4 (.initialized New1.yN.cls :: New1.site))
/-- the words ride from the start Z to the walk's own state -/
theorem moved {Z s : State} {a0 args : Array Value} (hZ : Z.Warmed39 s.vm) (hw : ∀ d ∈ words, d.before a0 Z = true) : ∀ d ∈ words, d.before args s = true := fun d hd => by
  have q := hw d hd
  have t : ∀ d ∈ words, d = .arrayClass .byte ∨ (d.onTables && d.keepsFace) = true := by decide +kernel
  rcases t d hd with rfl | t
  · exact RoadKit.mvA hZ q
  · exact RoadKit.mv hZ q t
/-- WHAT COMES BACK, over the tables of the start Z: h the heap at the call, h' behind it -/
def Q (Z : State) (x : Addr) (A : Cell) (h : Heap) (v : Option Value) (h' : Heap) (L : List Loc) : Prop := v = none ∧ (∀ y ∈ L, y.base = x) ∧ RoadKit.Keep h h' [x] ∧ h'.size = h.size + 1 ∧ RoadKit.Exa Z h' x ST ∧ RoadKit.Fld Z h' x ST "value" "[B" (.ref h.size) ∧ RoadKit.Fld Z h' x ST "coder" "B" (.int 0) ∧
  (∃ V : Cell, RoadKit.Arr Z h' h.size V .byte ∧ V.vm = .none ∧ Z.vm.findClass "[B" = some V.cls ∧ V.slots.size = A.slots.size ∧ ∀ j, j < A.slots.size → V.slots[j]? = some (.int (lo8 (cv A j)))) ∧
  ∀ (O n d : String) (w : Value), RoadKit.Fld Z h x O n d w → RoadKit.slotOf Z O n d ≠ RoadKit.slotOf Z ST "value" "[B" → RoadKit.slotOf Z O n d ≠ RoadKit.slotOf Z ST "coder" "B" → RoadKit.Fld Z h' x O n d w
/-- **new String(chars) AT A CALL, IN THE ROAD'S FORM**: for specialBack behind newO: x the fresh String, b the char[] with the cell A -/
theorem back {p : Program} {l : Launch} {e : Env} {R : Room} {s : State} {args : Array Value} {below : List Frame} {len W : Nat} {Z : State} {a0 : Array Value} {h : Heap} (hZ : Z.Warmed39 s.vm) (hw : ∀ d ∈ words, d.before a0 Z = true) {kI : Nat} (wi : (Jvm.Cond.instantiable ST kI).before a0 Z = true)
    {x b : Addr} {A : Cell} {z : Int32} {v0 c0 : Value} (E : RoadKit.Exa Z h x ST) (V : RoadKit.Fld Z h x ST "value" "[B" v0) (C : RoadKit.Fld Z h x ST "coder" "B" c0) (K : RoadKit.Arr Z h b A .char) (hty : Typed .char A) (S : RoadKit.Sta Z h ST "COMPACT_STRINGS" "Z" (.int z)) (hz : ¬ z = 0)
    (l0 : 0 < A.slots.size) (l2 : A.slots.size ≤ 536870912) (hp : ∀ i, i < A.slots.size → ¬ 255 < cv A i) (hfr : 4 ≤ R.frames) (hlo : W + 65 ≤ R.locals) :
    Back l R p e below s args New1.yN len W (fun P a => a = #[.ref x, .ref b] ∧ P.U.heap = h ∧ P.cells + 1 ≤ R.cells ∧ P.slots + A.slots.size ≤ R.slots)
      (fun P _ v B => ∃ L, Q Z x A h v B.U.heap L ∧ B.locs = P.locs ++ L ∧ B.cells = P.cells + 1 ∧ B.slots = P.slots + A.slots.size) := by
  intro m meth c P g ig mk a X hg hsize hdg hW hn hp'
  obtain ⟨rfl, rfl, r1, r2⟩ := hp'
  have al : Z.vm.Alike P.U.vm := hZ.alike.trans X.warmed.alike
  obtain ⟨D, cfV, kV, iV, fV, hD, gV, stV, knV, obV, asV, slV⟩ := id V
  obtain ⟨D', cfC, kC, iC, fC, hD', gC, stC, -, -, asC, slC⟩ := id C
  cases hD.symm.trans hD'
  obtain ⟨D2, kD, e1, e2, e3, e4, e5⟩ := id E
  cases hD.symm.trans e1
  obtain ⟨c2, k2, i1, i2, i3, -⟩ := Cond.instantiable_spec wi
  cases e2.symm.trans i1
  cases e3.symm.trans i2
  obtain ⟨kU, u1, u2⟩ := al.2.2 _ _ e3
  have hB : Blank ST x D P.U := ⟨hD, ⟨knV, fun q hq => by rw [hq] at obV; cases obV⟩, by rw [al.findClass]; exact e2, kU, u1, by rw [u2]; exact i3, by rw [u2]; exact e5 i3⟩
  have F1 : Found ST "value" "[B" fV P.U := ⟨SBG.found_only al ⟨cfV, kV, iV, gV⟩, stV⟩
  have F2 : Found ST "coder" "B" fC P.U := ⟨SBG.found_only al ⟨cfC, kC, iC, gC⟩, stC⟩
  have hA : Ch b A P.U := ⟨⟨K.1, State.isArrayOf_alike al K.2.1, K.2.2, by omega⟩, hty⟩
  have hS : StaticIs P.U ST "COMPACT_STRINGS" "Z" (.int z) := by
    obtain ⟨cfS, iS, kS, fS, st, cS, t1, t2, t3, t4, t5, t6, t7⟩ := S
    exact StaticIs.there (s := { Z with heap := P.U.heap }) ⟨cfS, iS, kS, fS, st, cS, t1, t2, t3, t4, t5, (fun q => by rw [q] at t6; cases t6), t7⟩ al rfl
  obtain ⟨v, B, X', ⟨⟨hv, E', V', q1, q2, q3, q4, q5, q6, q7, q8, q9, q10, q11⟩, hl, hc, hs⟩, st⟩ := New1.pays x D fV fC b A z (tab_of (moved hZ hw)) hfr hlo m meth c P g ig mk _ X hg hsize hdg hW hn ⟨r1, r2, rfl, hB, F1, F2, hA, hS, hz, l0, l2, hp⟩
  have al' : Z.vm.Alike B.U.vm := hZ.alike.trans X'.warmed.alike
  have hsz : E'.slots.size = D.slots.size := by
    obtain ⟨-, -, -, kB, w1, w2, w3⟩ := q1
    obtain ⟨kB', y1, y2⟩ := al'.2.2 _ _ e3
    rw [q2.2.1] at w1
    cases w1.symm.trans y1
    rw [w3, e5 i3, y2]
  refine ⟨v, B, X', ⟨_, ⟨hv, ?_, ⟨by omega, fun y cy hy hn' => q10 y cy (by simpa using hn') hy, fun y cy hy => ?_⟩, q11, ⟨E', _, q1.1, by rw [q2.2.1]; exact e2, by rw [q2.2.1]; exact e3, by rw [q2.1]; exact obV, fun _ => by rw [hsz]; exact e5 i3⟩,
    ⟨E', cfV, kV, iV, fV, q1.1, gV, stV, by rw [q2.1]; exact knV, by rw [q2.1]; exact obV, by rw [q2.2.1]; exact asV, q3⟩, ⟨E', cfC, kC, iC, fC, q1.1, gC, stC, by rw [q2.1]; exact knV, by rw [q2.1]; exact obV, by rw [q2.2.1]; exact asC, q4⟩,
    ⟨V', ⟨q5.1, State.isArrayOf_alike al'.symm q5.2.1, q5.2.2.1⟩, q6, by rw [← al'.findClass]; exact q7, q8, fun j hj => by have := q9 j hj; rwa [Nat.zero_add] at this⟩, fun O n d w F n1 n2 => ?_⟩, hl, hc, hs⟩, st⟩
  · intro y hy
    simp only [List.mem_cons, List.not_mem_nil, or_false] at hy
    rcases hy with rfl | rfl <;> rfl
  · by_cases q : y = x
    · subst q
      cases hD.symm.trans hy
      exact ⟨E', q1.1, q2.2.1, q2.1, hsz⟩
    · exact ⟨cy, q10 y cy q hy, rfl, rfl, rfl⟩
  · obtain ⟨D3, cf, k, i, f, g1, g2, g3, g4, g5, g6, g7⟩ := F
    cases hD.symm.trans g1
    simp only [RoadKit.slotOf, g2, gV, gC, Option.map_some, Option.getD_some] at n1 n2
    exact ⟨E', cf, k, i, f, q1.1, g2, g3, by rw [q2.1]; exact g4, by rw [q2.1]; exact g5, by rw [q2.2.1]; exact g6, by rw [q2.2.2 f.slot (by simp [n1, n2])]; exact g7⟩
end StrChars.Road
namespace StrChars.Road
open Jvm Sem ClassFile Op Lib Jvm.Stand Jvm.Free Jvm.Free.XT
/-- WHAT COMES BACK, the byte[] as a list of values -/
def QA (Z : State) (x : Addr) (zn : Int32) (cs : List Int32) (h : Heap) (v : Option Value) (h' : Heap) (L : List Loc) : Prop := v = none ∧ (∀ y ∈ L, y.base = x) ∧ RoadKit.Keep h h' [x] ∧ h'.size = h.size + 1 ∧ RoadKit.Exa Z h' x ST ∧ RoadKit.Fld Z h' x ST "value" "[B" (.ref h.size) ∧ RoadKit.Fld Z h' x ST "coder" "B" (.int 0) ∧
  (∃ kb, Z.vm.findClass "[B" = some kb ∧ RoadKit.Arv Z h' h.size kb .byte zn (cs.map fun c => .int (lo8 c)) (.int 0)) ∧
  ∀ (O n d : String) (w : Value), RoadKit.Fld Z h x O n d w → RoadKit.slotOf Z O n d ≠ RoadKit.slotOf Z ST "value" "[B" → RoadKit.slotOf Z O n d ≠ RoadKit.slotOf Z ST "coder" "B" → RoadKit.Fld Z h' x O n d w
/-- **new String(chars) AT A CALL, THE ARRAYS AS LISTS**: the char[] at b holds cs, not empty, no char above 255 -/
theorem backArv {p : Program} {l : Launch} {e : Env} {R : Room} {s : State} {args : Array Value} {below : List Frame} {len W : Nat} {Z : State} {a0 : Array Value} {h : Heap} (hZ : Z.Warmed39 s.vm) (hw : ∀ d ∈ words, d.before a0 Z = true) {kI : Nat} (wi : (Jvm.Cond.instantiable ST kI).before a0 Z = true)
    {x b : Addr} {k : ClassId} {zn z : Int32} {cs : List Int32} {dv v0 c0 : Value} (E : RoadKit.Exa Z h x ST) (V : RoadKit.Fld Z h x ST "value" "[B" v0) (C : RoadKit.Fld Z h x ST "coder" "B" c0) (K : RoadKit.Arv Z h b k .char zn (cs.map Value.int) dv) (S : RoadKit.Sta Z h ST "COMPACT_STRINGS" "Z" (.int z)) (hz : ¬ z = 0)
    (hlen : zn.toNatClampNeg = cs.length) (h0 : 0 < cs.length) (hbig : cs.length ≤ 536870912) (hall : ∀ c ∈ cs, ¬ 255 < c) (hfr : 4 ≤ R.frames) (hlo : W + 65 ≤ R.locals) :
    Back l R p e below s args New1.yN len W (fun P a => a = #[.ref x, .ref b] ∧ P.U.heap = h ∧ P.cells + 1 ≤ R.cells ∧ P.slots + cs.length ≤ R.slots)
      (fun P _ v B => ∃ L, QA Z x zn cs h v B.U.heap L ∧ B.locs = P.locs ++ L ∧ B.cells = P.cells + 1 ∧ B.slots = P.slots + cs.length) := by
  obtain ⟨A, K1, K2, K3, K4, K5, K6⟩ := K
  have e : A.slots.size = cs.length := K3.trans hlen
  have hat : ∀ (i : Nat) (hi : i < cs.length), A.slots[i]? = some (.int cs[i]) := fun i hi => by rw [K5 i (by omega)]; simp [List.getD_eq_getElem?_getD, hi]
  have hcv : ∀ (i : Nat) (hi : i < cs.length), cv A i = cs[i] := fun i hi => by unfold cv; rw [hat i hi]
  have hty : Typed .char A := fun i v hv => by
    have hi : i < A.slots.size := (Array.getElem?_eq_some_iff.mp hv).1
    have q := K5 i hi
    rw [hv] at q
    rw [Option.some.inj q]
    exact K6 i hi
  refine Back.mono (back hZ hw wi E V C K1 hty S hz (by omega) (by omega) (fun i hi => by rw [hcv i (by omega)]; exact hall _ (List.getElem_mem _)) hfr hlo) (fun P a hp => ⟨hp.1, hp.2.1, hp.2.2.1, by rw [e]; exact hp.2.2.2⟩) (fun P a v B hp hq => ?_)
  obtain ⟨L, ⟨q1, q2, q3, q4, q5, q6, q7, ⟨V', v1, v2, v3, v4, v5⟩, q9⟩, hl, hc, hs⟩ := hq
  refine ⟨L, ⟨q1, q2, q3, q4, q5, q6, q7, ⟨V'.cls, v3, V', v1, rfl, by rw [v4, e, hlen], K4, fun i hi => ?_, fun i hi => ?_⟩, q9⟩, hl, hc, by rw [hs, e]⟩
  · have hi' : i < cs.length := by omega
    rw [v5 i (by omega), hcv i hi']; simp [List.getD_eq_getElem?_getD, hi']
  · have hi' : i < cs.length := by omega
    simp only [List.getD_eq_getElem?_getD, List.getElem?_map, List.getElem?_eq_getElem hi', Option.map_some, Option.getD_some]
    exact fits_lo8 _
end StrChars.Road
namespace StrChars.Road
open Jvm Sem ClassFile Op Lib Jvm.Stand Jvm.Free Jvm.Free.XT
/-- WHAT COMES BACK, in the writer's own shape -/
def QV (Z : State) (x : Addr) (N : Int32) (bs : List Int32) (h : Heap) (n0 : Nat) (v : Option Value) (h' : Heap) (L : List Loc) : Prop := v = none ∧ RoadKit.Fr n0 L ∧ RoadKit.Keep h h' [x] ∧ RoadKit.Exa Z h' x ST ∧ RoadKit.Fld Z h' x ST "coder" "B" (.int 0) ∧
  ∃ (t : Addr) (kb : ClassId), n0 ≤ t ∧ h.size ≤ t ∧ ¬ t = x ∧ RoadKit.Fld Z h' x ST "value" "[B" (.ref t) ∧ RoadKit.Arv Z h' t kb .byte N (bs.map Value.int) (.int 0)
/-- **new String(chars) AT A CALL, FOR THE WRITER**: a char[] of n known ints, each 0 to 255 -/
theorem backV {p : Program} {l : Launch} {e : Env} {R : Room} {s : State} {args : Array Value} {below : List Frame} {len W : Nat} {Z : State} {a0 : Array Value} {h : Heap} (hZ : Z.Warmed39 s.vm) (hw : ∀ d ∈ words, d.before a0 Z = true) {kI : Nat} (wi : (Jvm.Cond.instantiable ST kI).before a0 Z = true)
    {x b : Addr} {kC : ClassId} {cs bs : List Int32} {d v0 c0 : Value} {z N : Int32} {n n0 : Nat} (hx0 : n0 ≤ x) (hh0 : n0 ≤ h.size) (E : RoadKit.Exa Z h x ST) (V : RoadKit.Fld Z h x ST "value" "[B" v0) (C : RoadKit.Fld Z h x ST "coder" "B" c0) (K : RoadKit.Arv Z h b kC .char N (cs.map Value.int) d) (S : RoadKit.Sta Z h ST "COMPACT_STRINGS" "Z" (.int z)) (hz : ¬ z = 0)
    (hn : cs.length = n) (hN : N = Int32.ofNat n) (l0 : 0 < n) (l2 : n ≤ 4000) (hp : ∀ c ∈ cs, ¬ c < 0 ∧ ¬ (255 : Int32) < c) (hb : bs = cs.map (fun c => c.toInt8.toInt32)) (hfr : 4 ≤ R.frames) (hlo : W + 65 ≤ R.locals) :
    Back l R p e below s args (⟨"java/lang/String", "<init>", "([C)V"⟩ : MethodName) len W (fun P a => a = #[.ref x, .ref b] ∧ P.U.heap = h ∧ P.cells + 1 ≤ R.cells ∧ P.slots + n ≤ R.slots)
      (fun P _ v B => ∃ L, QV Z x N bs h n0 v B.U.heap L ∧ B.locs = P.locs ++ L ∧ B.cells = P.cells + 1 ∧ B.slots = P.slots + n) := by
  subst hn hN hb
  refine Back.mono (backArv hZ hw wi E V C K S hz (n32 (by omega)) l0 (by omega) (fun c hc => (hp c hc).2) hfr hlo) (fun P a hp => hp) (fun P a v B hp hq => ?_)
  obtain ⟨L, ⟨q1, q2, q3, q4, q5, q6, q7, ⟨kb, v1, v2⟩, q9⟩, hl, hc, hs⟩ := hq
  exact ⟨L, ⟨q1, fun y hy => by rw [q2 y hy]; exact hx0, q3, q5, q7, h.size, kb, hh0, Nat.le_refl _, Nat.ne_of_gt E.lt, q6, by rw [List.map_map]; exact v2⟩, hl, hc, hs⟩
end StrChars.Road
namespace StrChars
open Jvm Sem ClassFile Op Lib Jvm.Stand Jvm.Free.XT Jvm.Free.ALB Jvm.Free.JM Jvm.Free
open Jvm.Lib.Cold (StaticIs)
def hi8 (x : Int32) : Int32 := lo8 (x >>> ((8 : Int32) &&& 31))
/-- what StringUTF16.getChar makes of two bytes -/
def pairCh (u v : Int32) : Int32 := (((u &&& 255) <<< ((0 : Int32) &&& 31)) ||| ((v &&& 255) <<< ((8 : Int32) &&& 31))).toUInt32.toUInt16.toUInt32.toInt32
theorem lo8_and (x : Int32) : (lo8 x &&& 255).toBitVec.toNat = x.toBitVec.toNat % 256 := by
  have h : (lo8 x).toBitVec = (x.toBitVec.signExtend 8).signExtend 32 := by rw [lo8, Int8.toBitVec_toInt32, Int32.toBitVec_toInt8]
  rw [Int32.toBitVec_and, BitVec.toNat_and, h]
  have e : ((x.toBitVec.signExtend 8).signExtend 32).toNat % 256 = x.toBitVec.toNat % 256 := by
    rw [BitVec.toNat_signExtend]
    have hlt := x.toBitVec.isLt
    simp only [BitVec.toNat_setWidth, BitVec.toNat_signExtend]
    split <;> split <;> omega
  rw [← e]
  exact Nat.and_two_pow_sub_one_eq_mod _ 8
theorem pair_says {c : Int32} (h0 : ¬ c < 0) (h1 : ¬ 65535 < c) : pairCh (lo8 c) (hi8 c) = c := by
  rw [Int32.lt_iff_toInt_lt] at h0 h1
  have e0 : (0 : Int32).toInt = 0 := rfl
  have e1 : (65535 : Int32).toInt = 65535 := rfl
  have hc : c.toInt = c.toBitVec.toNat := by
    have := c.toBitVec.isLt
    have e : c.toInt = c.toBitVec.toInt := rfl
    rw [e] at h0 h1
    rw [e]
    rw [BitVec.toInt_eq_toNat_cond] at h0 h1 ⊢
    split at h0 <;> split <;> omega
  have hn : c.toBitVec.toNat < 65536 := by omega
  have a1 := lo8_and c
  have a2 : (hi8 c &&& 255).toBitVec.toNat = c.toBitVec.toNat / 256 := by
    rw [hi8, lo8_and]
    have e : ((8 : Int32) &&& 31) = 8 := by decide
    rw [e, Int32.toBitVec_shiftRight]
    have e2 : ((8 : Int32).toBitVec.smod 32) = 8#32 := by decide
    rw [e2, BitVec.sshiftRight_eq', BitVec.toNat_sshiftRight_of_msb_false (by rw [BitVec.msb_eq_false_iff_two_mul_lt]; omega)]
    show c.toBitVec.toNat >>> 8 % 256 = _
    rw [Nat.shiftRight_eq_div_pow]
    omega
  unfold pairCh
  apply Int32.toBitVec_inj.mp
  apply BitVec.eq_of_toNat_eq
  have f0 : ((0 : Int32) &&& 31) = 0 := by decide
  have f8 : ((8 : Int32) &&& 31) = 8 := by decide
  rw [f0, f8]
  have g : (((lo8 c &&& 255) <<< (0 : Int32)) ||| ((hi8 c &&& 255) <<< (8 : Int32))).toBitVec.toNat = c.toBitVec.toNat := by
    rw [Int32.toBitVec_or, Int32.toBitVec_shiftLeft, Int32.toBitVec_shiftLeft]
    have s0 : ((0 : Int32).toBitVec.smod 32) = 0#32 := by decide
    have s8 : ((8 : Int32).toBitVec.smod 32) = 8#32 := by decide
    rw [s0, s8, BitVec.toNat_or]
    simp only [BitVec.shiftLeft_eq', BitVec.toNat_shiftLeft, a1, a2]
    show (c.toBitVec.toNat % 256) <<< 0 % 2 ^ 32 ||| (c.toBitVec.toNat / 256) <<< 8 % 2 ^ 32 = _
    rw [Nat.shiftLeft_zero, Nat.mod_eq_of_lt (show c.toBitVec.toNat % 256 < 2 ^ 32 by omega), Nat.mod_eq_of_lt (show (c.toBitVec.toNat / 256) <<< 8 < 2 ^ 32 by rw [Nat.shiftLeft_eq]; omega), Nat.or_comm, ← Nat.shiftLeft_add_eq_or_of_lt (by omega), Nat.shiftLeft_eq]
    omega
  show BitVec.toNat (((((lo8 c &&& 255) <<< (0 : Int32)) ||| ((hi8 c &&& 255) <<< (8 : Int32))).toBitVec.setWidth 16).setWidth 32) = _
  rw [BitVec.toNat_setWidth, BitVec.toNat_setWidth, g]
  omega
end StrChars
namespace StrChars
open Jvm Sem ClassFile Op Lib Jvm.Stand Jvm.Free.XT Jvm.Free.ALB Jvm.Free.JM Jvm.Free
open Jvm.Lib.Cold (StaticIs)
/-- the array's cell V codes the n chars f 0 .. f (n - 1) by the coder cd, as the JDK does: coder 1 just where some char is above 255 -/
def Cod (cd : Int32) (n : Nat) (f : Nat → Int32) (V : Cell) : Prop := (cd = 0 ∧ V.slots.size = n ∧ ∀ j, j < n → V.slots[j]? = some (.int (lo8 (f j))) ∧ ¬ 255 < f j) ∨ (cd = 1 ∧ V.slots.size = 2 * n ∧ (∀ j, j < n → V.slots[2 * j]? = some (.int (lo8 (f j))) ∧ V.slots[2 * j + 1]? = some (.int (hi8 (f j)))) ∧ ∃ j, j < n ∧ 255 < f j)
/-- **x is a String of the n chars f 0 .. f (n - 1)**, Latin-1 or UTF-16; its array at t has the cell V -/
def Txt (x t : Addr) (V : Cell) (cd : Int32) (n : Nat) (f : Nat → Int32) (U : State) : Prop := Exact "java/lang/String" x U ∧ Has x "java/lang/String" "value" "[B" (.ref t) U ∧ Has x "java/lang/String" "coder" "B" (.int cd) U ∧ XT.Arr .byte t V U ∧ Cod cd n f V ∧ ∀ j, j < n → ¬ f j < 0 ∧ ¬ 65535 < f j
theorem Txt.mv {x t : Addr} {V : Cell} {cd : Int32} {n : Nat} {f : Nat → Int32} {U U' : State} (h : Txt x t V cd n f U) (hal : U.vm.Alike U'.vm) (hh : U'.heap = U.heap) : Txt x t V cd n f U' := ⟨h.1.mv hal hh, h.2.1.mv hal hh, h.2.2.1.mv hal hh, h.2.2.2.1.mv hal hh, h.2.2.2.2⟩
end StrChars
namespace StrChars.Road
open Jvm Sem ClassFile Op Lib Jvm.Stand Jvm.Free Jvm.Free.XT
open Jvm.Lib.Cold (StaticIs)
theorem consq {a : Array Value} {s : State} {c : Jvm.Cond} {L : List Jvm.Cond} (h0 : c.before a s = true) (h : ∀ w ∈ L, w.before a s = true) : ∀ w ∈ c :: L, w.before a s = true := fun w hw => (List.mem_cons.mp hw).elim (fun e => e ▸ h0) (h w)
/-- the bytes of the chars cs, low before high -/
def wideBytes : List Int32 → List Value
  | [] => []
  | c :: cs => .int (lo8 c) :: .int (hi8 c) :: wideBytes cs
theorem wide_lo (d : Value) : ∀ (cs : List Int32) (j : Nat), j < cs.length → (wideBytes cs).getD (2 * j) d = .int (lo8 (cs.getD j 0))
  | [], j, h => absurd h (Nat.not_lt_zero j)
  | c :: cs, 0, _ => rfl
  | c :: cs, j + 1, h => by
    have q := wide_lo d cs j (by simpa using h)
    rw [show 2 * (j + 1) = 2 * j + 1 + 1 from by omega]
    simpa [wideBytes] using q
theorem wide_hi (d : Value) : ∀ (cs : List Int32) (j : Nat), j < cs.length → (wideBytes cs).getD (2 * j + 1) d = .int (hi8 (cs.getD j 0))
  | [], j, h => absurd h (Nat.not_lt_zero j)
  | c :: cs, 0, _ => rfl
  | c :: cs, j + 1, h => by
    have q := wide_hi d cs j (by simpa using h)
    rw [show 2 * (j + 1) + 1 = 2 * j + 1 + 1 + 1 from by omega]
    simpa [wideBytes] using q
theorem low_at (d : Value) (cs : List Int32) (j : Nat) (h : j < cs.length) : (cs.map fun c => Value.int (lo8 c)).getD j d = .int (lo8 (cs.getD j 0)) := by
  simp [List.getD_eq_getElem?_getD, h]
/-- an array of N2 bytes vs codes the chars cs by the coder cd -/
def CodA (cs : List Int32) (cd N2 : Int32) (vs : List Value) : Prop := (cd = 0 ∧ N2 = Int32.ofNat cs.length ∧ vs = (cs.map fun c => Value.int (lo8 c)) ∧ ∀ c ∈ cs, ¬ 255 < c) ∨ (cd = 1 ∧ N2 = Int32.ofNat (2 * cs.length) ∧ vs = wideBytes cs ∧ ∃ c ∈ cs, 255 < c)
theorem CodA.cod {cs : List Int32} {cd N2 : Int32} {vs : List Value} {V : Cell} (h : CodA cs cd N2 vs) (hn : 2 * cs.length < 2 ^ 31) (hs : V.slots.size = N2.toNatClampNeg) (hv : RoadKit.Has V vs (.int 0)) : Cod cd cs.length (fun j => cs.getD j 0) V := by
  rcases h with ⟨rfl, rfl, rfl, h⟩ | ⟨rfl, rfl, rfl, c, hc, hw⟩
  · rw [n32 (by omega)] at hs
    exact Or.inl ⟨rfl, hs, fun j hj => ⟨by rw [hv j (by omega), low_at _ _ _ hj], by
      have e : cs.getD j 0 = cs[j] := by simp [List.getD_eq_getElem?_getD, hj]
      show ¬ 255 < cs.getD j 0
      rw [e]; exact h _ (List.getElem_mem _)⟩⟩
  · rw [n32 (by omega)] at hs
    obtain ⟨j, hj, rfl⟩ := List.getElem_of_mem hc
    exact Or.inr ⟨rfl, hs, fun j hj => ⟨by rw [hv _ (by omega), wide_lo _ _ _ hj], by rw [hv _ (by omega), wide_hi _ _ _ hj]⟩, j, hj, by
      have e : cs.getD j 0 = cs[j] := by simp [List.getD_eq_getElem?_getD, hj]
      show 255 < cs.getD j 0
      rw [e]; exact hw⟩
/-- an object of exactly java/lang/String, its two fields found: as the laws ask it -/
theorem strObj {Z U : State} {a0 : Array Value} {kI : Nat} (wi : (Jvm.Cond.instantiable ST kI).before a0 Z = true) (al : Z.vm.Alike U.vm) {x : Addr} {v0 c0 : Value} (E : RoadKit.Exa Z U.heap x ST) (V : RoadKit.Fld Z U.heap x ST "value" "[B" v0) (C : RoadKit.Fld Z U.heap x ST "coder" "B" c0) :
    ∃ (D : Cell) (fV fC : Field), Blank ST x D U ∧ Found ST "value" "[B" fV U ∧ Found ST "coder" "B" fC U ∧ D.slots[fV.slot]? = some v0 ∧ D.slots[fC.slot]? = some c0 ∧ RoadKit.slotOf Z ST "value" "[B" = fV.slot ∧ RoadKit.slotOf Z ST "coder" "B" = fC.slot := by
  obtain ⟨D, cfV, kV, iV, fV, hD, gV, stV, knV, obV, asV, slV⟩ := V
  obtain ⟨D', cfC, kC, iC, fC, hD', gC, stC, -, -, asC, slC⟩ := C
  cases hD.symm.trans hD'
  obtain ⟨D2, kD, e1, e2, e3, e4, e5⟩ := E
  cases hD.symm.trans e1
  obtain ⟨c2, k2, i1, i2, i3, -⟩ := Cond.instantiable_spec wi
  cases e2.symm.trans i1
  cases e3.symm.trans i2
  obtain ⟨kU, u1, u2⟩ := al.2.2 _ _ e3
  exact ⟨D, fV, fC, ⟨hD, ⟨knV, fun q hq => by rw [hq] at obV; cases obV⟩, by rw [al.findClass]; exact e2, kU, u1, by rw [u2]; exact i3, by rw [u2]; exact e5 i3⟩, ⟨SBG.found_only al ⟨cfV, kV, iV, gV⟩, stV⟩, ⟨SBG.found_only al ⟨cfC, kC, iC, gC⟩, stC⟩, slV, slC, by simp [RoadKit.slotOf, gV], by simp [RoadKit.slotOf, gC]⟩
theorem sta_is {Z U : State} (al : Z.vm.Alike U.vm) {C n d : String} {v : Value} (S : RoadKit.Sta Z U.heap C n d v) : StaticIs U C n d v := by
  obtain ⟨cfS, iS, kS, fS, st, cS, t1, t2, t3, t4, t5, t6, t7⟩ := S
  exact StaticIs.there (s := { Z with heap := U.heap }) ⟨cfS, iS, kS, fS, st, cS, t1, t2, t3, t4, t5, (fun q => by rw [q] at t6; cases t6), t7⟩ al rfl
end StrChars.Road
namespace StrChars
open Jvm Sem ClassFile Op Lib Jvm.Stand Jvm.Free.XT Jvm.Free.ALB Jvm.Free.JM Jvm.Free
open Jvm.Lib.Cold (StaticIs)
/-- what place i of a byte[]'s cell holds -/
def yv (A : Cell) (i : Nat) : Int32 := match A.slots[i]? with | some (.int x) => x | _ => 0
theorem yv_get {a : Addr} {A : Cell} {U : State} (h : XT.Arr .byte a A U) (ht : Typed .byte A) {i : Nat} (hi : i < A.slots.size) : A.slots[i]? = some (.int (yv A i)) := by
  have e := Array.getElem?_eq_getElem hi
  have f := ht i _ e
  unfold yv; rw [e]
  generalize A.slots[i] = v at f
  cases v <;> simp [fits] at f ⊢
/-- the two arrays are equal, place for place -/
def EqC (A B : Cell) : Prop := A.slots.size = B.slots.size ∧ ∀ i, i < A.slots.size → yv A i = yv B i
/-- a boolean that says whether p -/
def Says01 (q : Prop) (r : Option Value) (s u : State) : Prop := ∃ v : Int32, r = some (.int v) ∧ u.heap = s.heap ∧ ((v = 1 ∧ q) ∨ (v = 0 ∧ ¬ q))
theorem Says01.mv {q : Prop} : ∀ r (U U' V V' : State), U'.heap = U.heap → V.vm.Alike V'.vm → V'.heap = V.heap → Says01 q r U V → Says01 q r U' V' :=
  fun r U U' V V' h1 _ h2 ⟨v, a, b, c⟩ => ⟨v, a, by rw [h1, h2]; exact b, c⟩
namespace LEq
def yN : MethodName := ⟨"java/lang/StringLatin1", "equals", "([B[B)Z"⟩
abbrev yB : ByteArray := jdk_43_method_13_code
theorem d0 : decode yB 0 = .ok (.aload_n 0, 1) := by decide +kernel
theorem d1 : decode yB 1 = .ok (.arraylength, 1) := by decide +kernel
theorem d2 : decode yB 2 = .ok (.aload_n 1, 1) := by decide +kernel
theorem d3 : decode yB 3 = .ok (.arraylength, 1) := by decide +kernel
theorem d4 : decode yB 4 = .ok (.if_icmp (.ne) 30, 3) := by decide +kernel
theorem d7 : decode yB 7 = .ok (.iconst 0, 1) := by decide +kernel
theorem d8 : decode yB 8 = .ok (.istore_n 2, 1) := by decide +kernel
theorem d9 : decode yB 9 = .ok (.iload_n 2, 1) := by decide +kernel
theorem d10 : decode yB 10 = .ok (.aload_n 0, 1) := by decide +kernel
theorem d11 : decode yB 11 = .ok (.arraylength, 1) := by decide +kernel
theorem d12 : decode yB 12 = .ok (.if_icmp (.ge) 20, 3) := by decide +kernel
theorem d15 : decode yB 15 = .ok (.aload_n 0, 1) := by decide +kernel
theorem d16 : decode yB 16 = .ok (.iload_n 2, 1) := by decide +kernel
theorem d17 : decode yB 17 = .ok (.baload, 1) := by decide +kernel
theorem d18 : decode yB 18 = .ok (.aload_n 1, 1) := by decide +kernel
theorem d19 : decode yB 19 = .ok (.iload_n 2, 1) := by decide +kernel
theorem d20 : decode yB 20 = .ok (.baload, 1) := by decide +kernel
theorem d21 : decode yB 21 = .ok (.if_icmp (.eq) 5, 3) := by decide +kernel
theorem d24 : decode yB 24 = .ok (.iconst 0, 1) := by decide +kernel
theorem d25 : decode yB 25 = .ok (.ireturn, 1) := by decide +kernel
theorem d26 : decode yB 26 = .ok (.iinc 2 1, 3) := by decide +kernel
theorem d29 : decode yB 29 = .ok (.goto (-20), 3) := by decide +kernel
theorem d32 : decode yB 32 = .ok (.iconst 1, 1) := by decide +kernel
theorem d33 : decode yB 33 = .ok (.ireturn, 1) := by decide +kernel
theorem d34 : decode yB 34 = .ok (.iconst 0, 1) := by decide +kernel
theorem d35 : decode yB 35 = .ok (.ireturn, 1) := by decide +kernel
def site : List Cond := []
def tab : Cond := tabOf yN yB 3 (some .boolean) site
def P (a : Addr) (A : Cell) (b : Addr) (B : Cell) (args : Array Value) (s : State) : Prop := args = #[.ref a, .ref b] ∧ XT.Arr .byte a A s ∧ Typed .byte A ∧ XT.Arr .byte b B s ∧ Typed .byte B
/-- whether two byte[] are equal, place for place -/
theorem law (l : Launch) (a : Addr) (A : Cell) (b : Addr) (B : Cell) : Law l yN 2 2 0 0 yB 3 (some .boolean) site (P a A b B) (Says01 (EqC A B)) [] 0 0 := by
  refine Law.of_walk (plainFor_of_name (by decide +kernel)) (by decide +kernel) (by decide +kernel) (by decide) (fun _ _ h => by rw [h.1]; rfl) (fun _ U U' hal hh h => ⟨h.1, h.2.1.mv hal hh, h.2.2.1, h.2.2.2.1.mv hal hh, h.2.2.2.2⟩) (fun r U U' V V' h1 hal h2 h => Says01.mv r U U' V V' h1 hal h2 h) ?_
  intro p e s m args below meth c s₁ X0 hexec hbytes hml hret hlk hnm hown hh0 W hP
  obtain ⟨rfl, hA, tA, hB, tB⟩ := hP
  have a31 := hA.2.2.2
  have b31 := hB.2.2.2
  have hA0 := hA.mv X0.warmed.alike hh0
  have hB0 := hB.mv X0.warmed.alike hh0
  have c1 : Steps p.tables e below (s₁.setTop (entryFrame m #[.ref a, .ref b] 3)) (s₁.setTop (mkF m 0 #[.val (.ref a), .val (.ref b), .unset] [])) := entry rfl
  have c2 : Steps p.tables e below (s₁.setTop (entryFrame m #[.ref a, .ref b] 3)) (s₁.setTop (mkF m 4 #[.val (.ref a), .val (.ref b), .unset] [.int (Int32.ofNat B.slots.size), .int (Int32.ofNat A.slots.size)])) := c1.trans (by
    refine XS.aloadN X0.here hexec rfl (hb hbytes d0) rfl rfl ?_
    refine X0.alen hexec hA0 rfl rfl (hb hbytes d1) ?_
    refine XS.aloadN X0.here hexec rfl (hb hbytes d2) rfl rfl ?_
    refine X0.alen hexec hB0 rfl rfl (hb hbytes d3) ?_
    exact Steps.refl _)
  by_cases hs : A.slots.size = B.slots.size
  · have c3 : Steps p.tables e below (s₁.setTop (entryFrame m #[.ref a, .ref b] 3)) (s₁.setTop (mkF m 9 #[.val (.ref a), .val (.ref b), .val (.int 0)] [])) := c2.trans (by
      refine XS.icmpNo X0.here hexec rfl (hb hbytes d4) rfl (ii_ne_f (by rw [hs])) ?_
      refine iconstV X0.here hexec rfl 0 (hb hbytes d7) (by decide) ?_
      refine XS.istoreN X0.here hexec rfl (hb hbytes d8) rfl rfl ?_
      exact Steps.refl _)
    have loop : ∀ (r i : Nat), i + r = A.slots.size → (∀ j, j < i → yv A j = yv B j) → Steps p.tables e below (s₁.setTop (entryFrame m #[.ref a, .ref b] 3)) (s₁.setTop (mkF m 9 #[.val (.ref a), .val (.ref b), .val (.int (Int32.ofNat i))] [])) → ∃ (pc : Nat) (Ls : Array Slot) (v : Int32), (pc = 25 ∨ pc = 33) ∧ ((v = 1 ∧ EqC A B) ∨ (v = 0 ∧ ¬ EqC A B)) ∧ Steps p.tables e below (s₁.setTop (entryFrame m #[.ref a, .ref b] 3)) (s₁.setTop (mkF m pc Ls [.int v])) := by
      intro r
      induction r with
      | zero =>
        intro i hi he cl
        exact ⟨33, _, 1, Or.inr rfl, Or.inl ⟨rfl, hs, fun j hj => he j (by omega)⟩, cl.trans (by
          refine XS.iloadN X0.here hexec rfl (hb hbytes d9) rfl ?_
          refine XS.aloadN X0.here hexec rfl (hb hbytes d10) rfl rfl ?_
          refine X0.alen hexec hA0 rfl rfl (hb hbytes d11) ?_
          refine XS.icmpYes X0.here hexec rfl (pc0 := 12) rfl (hb hbytes d12) rfl (ii_ge_t (nlt32 (by omega) (by omega))) (by decide) rfl ?_
          refine iconstV X0.here hexec rfl 1 (hb hbytes d32) (by decide) ?_
          exact Steps.refl _)⟩
      | succ r ih =>
        intro i hi he cl
        have c4 : Steps p.tables e below (s₁.setTop (entryFrame m #[.ref a, .ref b] 3)) (s₁.setTop (mkF m 21 #[.val (.ref a), .val (.ref b), .val (.int (Int32.ofNat i))] [.int (yv B i), .int (yv A i)])) := cl.trans (by
          refine XS.iloadN X0.here hexec rfl (hb hbytes d9) rfl ?_
          refine XS.aloadN X0.here hexec rfl (hb hbytes d10) rfl rfl ?_
          refine X0.alen hexec hA0 rfl rfl (hb hbytes d11) ?_
          refine XS.icmpNo X0.here hexec rfl (hb hbytes d12) rfl (ii_ge_f (lt32 (by omega) (by omega))) ?_
          refine XS.aloadN X0.here hexec rfl (hb hbytes d15) rfl rfl ?_
          refine XS.iloadN X0.here hexec rfl (hb hbytes d16) rfl ?_
          refine X0.aget hexec hA0 rfl (yv_get hA tA (i := i) (by omega)) rfl rfl (hb hbytes d17) ?_
          refine XS.aloadN X0.here hexec rfl (hb hbytes d18) rfl rfl ?_
          refine XS.iloadN X0.here hexec rfl (hb hbytes d19) rfl ?_
          refine X0.aget hexec hB0 rfl (yv_get hB tB (i := i) (by omega)) rfl rfl (hb hbytes d20) ?_
          exact Steps.refl _)
        by_cases hv : yv A i = yv B i
        · have c5 : Steps p.tables e below (s₁.setTop (entryFrame m #[.ref a, .ref b] 3)) (s₁.setTop (mkF m 9 #[.val (.ref a), .val (.ref b), .val (.int (Int32.ofNat i + 1))] [])) := c4.trans (by
            refine XS.icmpYes X0.here hexec rfl (pc0 := 21) rfl (hb hbytes d21) rfl (ii_eq_t hv) (by decide) rfl ?_
            refine iincV X0.here hexec rfl 1 (hb hbytes d26) (by decide) rfl rfl ?_
            refine XS.goto X0.here hexec rfl (pc0 := 29) rfl (hb hbytes d29) (by decide) rfl ?_
            exact Steps.refl _)
          rw [succ32] at c5
          exact ih (i + 1) (by omega) (fun j hj => by
            by_cases e : j = i
            · rw [e]; exact hv
            · exact he j (by omega)) c5
        · exact ⟨25, _, 0, Or.inl rfl, Or.inr ⟨rfl, fun q => hv (q.2 i (by omega))⟩, c4.trans (by
            refine XS.icmpNo X0.here hexec rfl (hb hbytes d21) rfl (ii_eq_f hv) ?_
            refine iconstV X0.here hexec rfl 0 (hb hbytes d24) (by decide) ?_
            exact Steps.refl _)⟩
    obtain ⟨pc, Ls, v, hpc, hv, cz⟩ := loop A.slots.size 0 (by omega) (fun j hj => absurd hj (Nat.not_lt_zero j)) c3
    have nv : narrow .boolean (.int v) = .int v := by rcases hv with ⟨rfl, -⟩ | ⟨rfl, -⟩ <;> rfl
    rcases hpc with rfl | rfl
    · exact ⟨s₁, some (.int v), _, _, _, X0, rfl, rfl, rfl, (fun h => by cases h), ⟨v, rfl, hh0, hv⟩, fun fs hl => cz.trans (X0.ireturnOut hexec hret nv (Or.inr (Or.inl rfl)) (hb hbytes d25) hl)⟩
    · exact ⟨s₁, some (.int v), _, _, _, X0, rfl, rfl, rfl, (fun h => by cases h), ⟨v, rfl, hh0, hv⟩, fun fs hl => cz.trans (X0.ireturnOut hexec hret nv (Or.inr (Or.inl rfl)) (hb hbytes d33) hl)⟩
  · have c3 : Steps p.tables e below (s₁.setTop (entryFrame m #[.ref a, .ref b] 3)) (s₁.setTop (mkF m 35 #[.val (.ref a), .val (.ref b), .unset] [.int 0])) := c2.trans (by
      refine XS.icmpYes X0.here hexec rfl (pc0 := 4) rfl (hb hbytes d4) rfl (ii_ne_t (ne32 a31 b31 hs)) (by decide) rfl ?_
      refine iconstV X0.here hexec rfl 0 (hb hbytes d34) (by decide) ?_
      exact Steps.refl _)
    exact ⟨s₁, some (.int 0), _, _, _, X0, rfl, rfl, rfl, (fun h => by cases h), ⟨0, rfl, hh0, Or.inr ⟨rfl, fun q => hs q.1⟩⟩, fun fs hl => c3.trans (X0.ireturnOut hexec hret rfl (Or.inr (Or.inl rfl)) (hb hbytes d35) hl)⟩
end LEq
theorem Cod.ty {cd : Int32} {n : Nat} {f : Nat → Int32} {V : Cell} (h : Cod cd n f V) : Typed .byte V := fun i v hv => by
  have hi : i < V.slots.size := (Array.getElem?_eq_some_iff.mp hv).1
  rcases h with ⟨-, k1, k2⟩ | ⟨-, k1, k2, -⟩
  · rw [(k2 i (by omega)).1] at hv; cases hv; exact fits_lo8 _
  · rcases Nat.mod_two_eq_zero_or_one i with e | e
    · obtain ⟨j, rfl⟩ : ∃ j, i = 2 * j := ⟨i / 2, by omega⟩
      rw [(k2 j (by omega)).1] at hv; cases hv; exact fits_lo8 _
    · obtain ⟨j, rfl⟩ : ∃ j, i = 2 * j + 1 := ⟨i / 2, by omega⟩
      rw [(k2 j (by omega)).2] at hv; cases hv; exact fits_lo8 _
/-- the same text -/
def SameT (n : Nat) (f : Nat → Int32) (k : Nat) (g : Nat → Int32) : Prop := n = k ∧ ∀ j, j < n → f j = g j
theorem lo8_inj {x y : Int32} (h0 : ¬ x < 0) (h1 : ¬ 255 < x) (k0 : ¬ y < 0) (k1 : ¬ 255 < y) (h : lo8 x = lo8 y) : x = y := by
  rw [← lo8_mask h0 h1, ← lo8_mask k0 k1, h]
/-- arrays coded by one coder are equal just where the texts are -/
theorem Cod.eqv {cd : Int32} {n k : Nat} {f g : Nat → Int32} {V V' : Cell} (h : Cod cd n f V) (h' : Cod cd k g V') (hf : ∀ j, j < n → ¬ f j < 0 ∧ ¬ 65535 < f j) (hg : ∀ j, j < k → ¬ g j < 0 ∧ ¬ 65535 < g j) : EqC V V' ↔ SameT n f k g := by
  have yvv : ∀ {W : Cell} {i : Nat} {x : Int32}, W.slots[i]? = some (.int x) → yv W i = x := fun q => by unfold yv; rw [q]
  rcases h with ⟨rfl, k1, k2⟩ | ⟨rfl, k1, k2, -⟩
  · rcases h' with ⟨-, m1, m2⟩ | ⟨e, -⟩
    · constructor
      · rintro ⟨e1, e2⟩
        refine ⟨by omega, fun j hj => ?_⟩
        have q := e2 j (by omega)
        rw [yvv (k2 j hj).1, yvv (m2 j (by omega)).1] at q
        exact lo8_inj (hf j hj).1 (k2 j hj).2 (hg j (by omega)).1 (m2 j (by omega)).2 q
      · rintro ⟨rfl, e2⟩
        refine ⟨by omega, fun j hj => ?_⟩
        rw [yvv (k2 j (by omega)).1, yvv (m2 j (by omega)).1, e2 j (by omega)]
    · exact absurd e (by decide)
  · rcases h' with ⟨e, -⟩ | ⟨-, m1, m2, -⟩
    · exact absurd e (by decide)
    · constructor
      · rintro ⟨e1, e2⟩
        refine ⟨by omega, fun j hj => ?_⟩
        have q1 := e2 (2 * j) (by omega)
        have q2 := e2 (2 * j + 1) (by omega)
        rw [yvv (k2 j hj).1, yvv (m2 j (by omega)).1] at q1
        rw [yvv (k2 j hj).2, yvv (m2 j (by omega)).2] at q2
        rw [← pair_says (hf j hj).1 (hf j hj).2, ← pair_says (hg j (by omega)).1 (hg j (by omega)).2, q1, q2]
      · rintro ⟨rfl, e2⟩
        refine ⟨by omega, fun i hi => ?_⟩
        rcases Nat.mod_two_eq_zero_or_one i with e | e
        · obtain ⟨j, rfl⟩ : ∃ j, i = 2 * j := ⟨i / 2, by omega⟩
          rw [yvv (k2 j (by omega)).1, yvv (m2 j (by omega)).1, e2 j (by omega)]
        · obtain ⟨j, rfl⟩ : ∃ j, i = 2 * j + 1 := ⟨i / 2, by omega⟩
          rw [yvv (k2 j (by omega)).2, yvv (m2 j (by omega)).2, e2 j (by omega)]
/-- two codings differ: so do the texts -/
theorem Cod.dif {cd cd' : Int32} {n k : Nat} {f g : Nat → Int32} {V V' : Cell} (h : Cod cd n f V) (h' : Cod cd' k g V') (hne : ¬ cd = cd') : ¬ SameT n f k g := by
  rintro ⟨rfl, e⟩
  rcases h with ⟨rfl, -, k2⟩ | ⟨rfl, -, -, j, hj, hw⟩
  · rcases h' with ⟨rfl, -⟩ | ⟨-, -, -, j, hj, hw⟩
    · exact hne rfl
    · exact (k2 j hj).2 (by rw [e j hj]; exact hw)
  · rcases h' with ⟨-, -, m2⟩ | ⟨rfl, -⟩
    · exact (m2 j hj).2 (by rw [← e j hj]; exact hw)
    · exact hne rfl
/-- an object of exactly C is an instance of C -/
theorem cinst {p : Program} {l : Launch} {e : Env} {R : Room} {s : State} {m : MethodId} {args : Array Value} {below : List Frame} {meth : Method} {c : Code} {T : State} {locs : List Loc} {cells slots : Nat} (X : Stand p l e R s m args below meth c T locs cells slots) (hexec : p.tables.exec = Jvm.exec) {own C : String} {index : Nat} (hown : s.vm.findClass own = some m.cls) (hlink : (Cond.classLink own index C).before args s = true) {a : Addr} (hE : Exact C a T)
    {g : JFrame} (hg : g.method = m) {rest : List Value} (hstack : g.stack = .ref a :: rest) (hdg : decode c.code g.pc = .ok (.instanceof index, 3)) :
    ∃ T', Stand p l e R s m args below meth c T' locs cells slots ∧ T'.heap = T.heap ∧ ∀ target, Steps p.tables e below (T'.setTop { g with pc := g.pc + 3, stack := .int 1 :: rest }) target → Steps p.tables e below (T.setTop g) target := by
  obtain ⟨cB, h1, D, h2, h3, h4⟩ := hE
  have h1' : s.vm.findClass C = some cB := by rw [← X.warmed.alike.findClass]; exact h1
  obtain ⟨vm', X', st⟩ := X.instanceofYes hexec hown hlink h2 h4 h1' (by rw [h3]; exact Jvm.Free.SB.assignable_self _ _) hg hstack hdg
  exact ⟨_, X', rfl, st⟩
theorem cself {p : Program} {l : Launch} {e : Env} {R : Room} {s : State} {m : MethodId} {args : Array Value} {below : List Frame} {meth : Method} {c : Code} {T : State} {locs : List Loc} {cells slots : Nat} (X : Stand p l e R s m args below meth c T locs cells slots) (hexec : p.tables.exec = Jvm.exec) {own C : String} {index : Nat} (hown : s.vm.findClass own = some m.cls) (hlink : (Cond.classLink own index C).before args s = true) {a : Addr} (hE : Exact C a T)
    {g : JFrame} (hg : g.method = m) {rest : List Value} (hstack : g.stack = .ref a :: rest) (hdg : decode c.code g.pc = .ok (.checkcast index, 3)) :
    ∃ T', Stand p l e R s m args below meth c T' locs cells slots ∧ T'.heap = T.heap ∧ ∀ target, Steps p.tables e below (T'.setTop { g with pc := g.pc + 3, stack := .ref a :: rest }) target → Steps p.tables e below (T.setTop g) target := by
  obtain ⟨cB, h1, D, h2, h3, h4⟩ := hE
  have h1' : s.vm.findClass C = some cB := by rw [← X.warmed.alike.findClass]; exact h1
  obtain ⟨vm', X', st⟩ := X.checkcastYes hexec hown hlink h2 h4 h1' (by rw [h3]; exact Jvm.Free.SB.assignable_self _ _) hg hstack hdg
  exact ⟨_, X', rfl, fun t h => st t (by rw [← hstack] at h; exact h)⟩
namespace SEq
def yN : MethodName := ⟨"java/lang/String", "equals", "(Ljava/lang/Object;)Z"⟩
abbrev yB : ByteArray := jdk_42_method_66_code
theorem d0 : decode yB 0 = .ok (.aload_n 0, 1) := by decide +kernel
theorem d1 : decode yB 1 = .ok (.aload_n 1, 1) := by decide +kernel
theorem d2 : decode yB 2 = .ok (.if_acmp (.ne) 5, 3) := by decide +kernel
theorem d5 : decode yB 5 = .ok (.iconst 1, 1) := by decide +kernel
theorem d6 : decode yB 6 = .ok (.ireturn, 1) := by decide +kernel
theorem d7 : decode yB 7 = .ok (.aload_n 1, 1) := by decide +kernel
theorem d8 : decode yB 8 = .ok (.instanceof 10, 3) := by decide +kernel
theorem d11 : decode yB 11 = .ok (.ifCond (.eq) 43, 3) := by decide +kernel
theorem d14 : decode yB 14 = .ok (.aload_n 1, 1) := by decide +kernel
theorem d15 : decode yB 15 = .ok (.checkcast 10, 3) := by decide +kernel
theorem d18 : decode yB 18 = .ok (.astore_n 2, 1) := by decide +kernel
theorem d19 : decode yB 19 = .ok (.getstatic 38, 3) := by decide +kernel
theorem d22 : decode yB 22 = .ok (.ifCond (.eq) 14, 3) := by decide +kernel
theorem d25 : decode yB 25 = .ok (.aload_n 0, 1) := by decide +kernel
theorem d26 : decode yB 26 = .ok (.getfield 15, 3) := by decide +kernel
theorem d29 : decode yB 29 = .ok (.aload_n 2, 1) := by decide +kernel
theorem d30 : decode yB 30 = .ok (.getfield 15, 3) := by decide +kernel
theorem d33 : decode yB 33 = .ok (.if_icmp (.ne) 21, 3) := by decide +kernel
theorem d36 : decode yB 36 = .ok (.aload_n 0, 1) := by decide +kernel
theorem d37 : decode yB 37 = .ok (.getfield 9, 3) := by decide +kernel
theorem d40 : decode yB 40 = .ok (.aload_n 2, 1) := by decide +kernel
theorem d41 : decode yB 41 = .ok (.getfield 9, 3) := by decide +kernel
theorem d44 : decode yB 44 = .ok (.invokestatic 541, 3) := by decide +kernel
theorem d47 : decode yB 47 = .ok (.ifCond (.eq) 7, 3) := by decide +kernel
theorem d50 : decode yB 50 = .ok (.iconst 1, 1) := by decide +kernel
theorem d51 : decode yB 51 = .ok (.goto 4, 3) := by decide +kernel
theorem d54 : decode yB 54 = .ok (.iconst 0, 1) := by decide +kernel
theorem d55 : decode yB 55 = .ok (.ireturn, 1) := by decide +kernel
def site : List Cond := [.classLink "java/lang/String" 10 "java/lang/String", .fieldLink "java/lang/String" 38 "java/lang/String" "COMPACT_STRINGS" "Z", .fieldLink "java/lang/String" 15 "java/lang/String" "coder" "B", .fieldLink "java/lang/String" 9 "java/lang/String" "value" "[B", LEq.tab] ++ staticW "java/lang/String" 541 LEq.yN
def tab : Cond := tabOf yN yB 3 (some .boolean) site
def P (x t : Addr) (V : Cell) (cd : Int32) (n : Nat) (f : Nat → Int32) (y t' : Addr) (V' : Cell) (cd' : Int32) (k : Nat) (g : Nat → Int32) (z : Int32) (args : Array Value) (s : State) : Prop := args = #[.ref x, .ref y] ∧ Txt x t V cd n f s ∧ Txt y t' V' cd' k g s ∧ StaticIs s "java/lang/String" "COMPACT_STRINGS" "Z" (.int z) ∧ ¬ z = 0
/-- equals(Object) of two Strings: whether the texts are the same -/
theorem law (l : Launch) (x t : Addr) (V : Cell) (cd : Int32) (n : Nat) (f : Nat → Int32) (y t' : Addr) (V' : Cell) (cd' : Int32) (k : Nat) (g : Nat → Int32) (z : Int32) : Law l yN 2 1 1 14 yB 3 (some .boolean) site (P x t V cd n f y t' V' cd' k g z) (Says01 (SameT n f k g)) [] 0 0 := by
  refine Law.of_walk (plainFor_of_name (by decide +kernel)) (by decide +kernel) (by decide +kernel) (by decide) (fun _ _ h => by rw [h.1]; rfl) (fun _ U U' hal hh h => ⟨h.1, h.2.1.mv hal hh, h.2.2.1.mv hal hh, h.2.2.2.1.there hal hh, h.2.2.2.2⟩) (fun r U U' V V' h1 hal h2 h => Says01.mv r U U' V V' h1 hal h2 h) ?_
  intro p e s m args below meth c s₁ X0 hexec hbytes hml hret hlk hnm hown hh0 W hP
  obtain ⟨rfl, hx, hy, s1, hz⟩ := hP
  have c1 : Steps p.tables e below (s₁.setTop (entryFrame m #[.ref x, .ref y] 3)) (s₁.setTop (mkF m 2 #[.val (.ref x), .val (.ref y), .unset] [.ref y, .ref x])) := Steps.trans (entry rfl) (by
    show Steps p.tables e below (s₁.setTop (mkF m 0 #[.val (.ref x), .val (.ref y), .unset] [])) _
    refine XS.aloadN X0.here hexec rfl (hb hbytes d0) rfl rfl ?_
    refine XS.aloadN X0.here hexec rfl (hb hbytes d1) rfl rfl ?_
    exact Steps.refl _)
  by_cases hxy : x = y
  · have c2 : Steps p.tables e below (s₁.setTop (entryFrame m #[.ref x, .ref y] 3)) (s₁.setTop (mkF m 6 #[.val (.ref x), .val (.ref y), .unset] [.int 1])) := c1.trans (by
      refine acmpNo X0.here hexec rfl (hb hbytes d2) rfl rfl rfl (by simp [acmp, hxy]) ?_
      refine iconstV X0.here hexec rfl 1 (hb hbytes d5) (by decide) ?_
      exact Steps.refl _)
    subst hxy
    have ec : cd = cd' := by
      obtain ⟨D, fd, a1, a2, a3⟩ := hx.2.2.1
      obtain ⟨D', fd', b1, b2, b3⟩ := hy.2.2.1
      cases a1.symm.trans b1
      obtain ⟨q1, q2, q3, q4⟩ := a2.1
      obtain ⟨r1, r2, r3, r4⟩ := b2.1
      cases q4.symm.trans r4
      cases a3.symm.trans b3; rfl
    have et : t = t' := by
      obtain ⟨D, fd, a1, a2, a3⟩ := hx.2.1
      obtain ⟨D', fd', b1, b2, b3⟩ := hy.2.1
      cases a1.symm.trans b1
      obtain ⟨q1, q2, q3, q4⟩ := a2.1
      obtain ⟨r1, r2, r3, r4⟩ := b2.1
      cases q4.symm.trans r4
      cases a3.symm.trans b3; rfl
    subst ec et
    have ev : V = V' := by cases hx.2.2.2.1.1.symm.trans hy.2.2.2.1.1; rfl
    subst ev
    have hs : SameT n f k g := (Cod.eqv hx.2.2.2.2.1 hy.2.2.2.2.1 hx.2.2.2.2.2 hy.2.2.2.2.2).mp ⟨rfl, fun _ _ => rfl⟩
    exact ⟨s₁, some (.int 1), _, _, _, X0, rfl, rfl, rfl, (fun h => by cases h), ⟨1, rfl, hh0, Or.inl ⟨rfl, hs⟩⟩, fun fs hl => c2.trans (X0.ireturnOut hexec hret rfl (Or.inr (Or.inl rfl)) (hb hbytes d6) hl)⟩
  · have c2 : Steps p.tables e below (s₁.setTop (entryFrame m #[.ref x, .ref y] 3)) (s₁.setTop (mkF m 8 #[.val (.ref x), .val (.ref y), .unset] [.ref y])) := c1.trans (by
      refine acmpYes X0.here hexec rfl (pc0 := 2) rfl (hb hbytes d2) rfl rfl rfl (by simp [acmp, hxy]) (by decide) rfl ?_
      refine XS.aloadN X0.here hexec rfl (hb hbytes d7) rfl rfl ?_
      exact Steps.refl _)
    obtain ⟨T3, X3, q3, st3⟩ := cinst X0 hexec hown (wk W (.classLink "java/lang/String" 10 "java/lang/String")) (hy.mv X0.warmed.alike hh0).1 (g := (mkF m 8 #[.val (.ref x), .val (.ref y), .unset] [.ref y])) rfl (rest := []) rfl (hb hbytes d8)
    have hh3 := q3.trans hh0
    have c4 : Steps p.tables e below (s₁.setTop (entryFrame m #[.ref x, .ref y] 3)) (T3.setTop (mkF m 15 #[.val (.ref x), .val (.ref y), .unset] [.ref y])) := (c2.trans (st3 _ (Steps.refl _))).trans (by
      refine XS.ifNo X3.here hexec rfl (hb hbytes d11) rfl (i0_eq_f (by decide)) ?_
      refine XS.aloadN X3.here hexec rfl (hb hbytes d14) rfl rfl ?_
      exact Steps.refl _)
    obtain ⟨T5, X5, q5, st5⟩ := cself X3 hexec hown (wk W (.classLink "java/lang/String" 10 "java/lang/String")) (hy.mv X3.warmed.alike hh3).1 (g := (mkF m 15 #[.val (.ref x), .val (.ref y), .unset] [.ref y])) rfl (rest := []) rfl (hb hbytes d15)
    have hh5 := q5.trans hh3
    have c6 : Steps p.tables e below (s₁.setTop (entryFrame m #[.ref x, .ref y] 3)) (T5.setTop (mkF m 19 #[.val (.ref x), .val (.ref y), .val (.ref y)] [])) := (c4.trans (st5 _ (Steps.refl _))).trans (by
      refine XS.astoreN X5.here hexec rfl (hb hbytes d18) rfl rfl rfl ?_
      exact Steps.refl _)
    obtain ⟨T7, X7, q7, st7⟩ := X5.sget hexec hown (wk W (.fieldLink "java/lang/String" 38 "java/lang/String" "COMPACT_STRINGS" "Z")) s1 (fun _ _ h => by rw [hh5]; exact h) (g := (mkF m 19 #[.val (.ref x), .val (.ref y), .val (.ref y)] [])) rfl (hb hbytes d19)
    have hh7 := q7.trans hh5
    have c8 : Steps p.tables e below (s₁.setTop (entryFrame m #[.ref x, .ref y] 3)) (T7.setTop (mkF m 26 #[.val (.ref x), .val (.ref y), .val (.ref y)] [.ref x])) := (c6.trans (st7 _ (Steps.refl _))).trans (by
      refine XS.ifNo X7.here hexec rfl (hb hbytes d22) rfl (i0_eq_f hz) ?_
      refine XS.aloadN X7.here hexec rfl (hb hbytes d25) rfl rfl ?_
      exact Steps.refl _)
    obtain ⟨T9, X9, q9, st9⟩ := X7.hget hexec hown (wk W (.fieldLink "java/lang/String" 15 "java/lang/String" "coder" "B")) (hx.mv X7.warmed.alike hh7).2.2.1 (g := (mkF m 26 #[.val (.ref x), .val (.ref y), .val (.ref y)] [.ref x])) rfl (rest := []) rfl (hb hbytes d26)
    have hh9 := q9.trans hh7
    have c10 : Steps p.tables e below (s₁.setTop (entryFrame m #[.ref x, .ref y] 3)) (T9.setTop (mkF m 30 #[.val (.ref x), .val (.ref y), .val (.ref y)] [.ref y, .int cd])) := (c8.trans (st9 _ (Steps.refl _))).trans (by
      refine XS.aloadN X9.here hexec rfl (hb hbytes d29) rfl rfl ?_
      exact Steps.refl _)
    obtain ⟨T11, X11, q11, st11⟩ := X9.hget hexec hown (wk W (.fieldLink "java/lang/String" 15 "java/lang/String" "coder" "B")) (hy.mv X9.warmed.alike hh9).2.2.1 (g := (mkF m 30 #[.val (.ref x), .val (.ref y), .val (.ref y)] [.ref y, .int cd])) rfl (rest := [.int cd]) rfl (hb hbytes d30)
    have hh11 := q11.trans hh9
    have c12 : Steps p.tables e below (s₁.setTop (entryFrame m #[.ref x, .ref y] 3)) (T11.setTop (mkF m 33 #[.val (.ref x), .val (.ref y), .val (.ref y)] [.int cd', .int cd])) := c10.trans (st11 _ (Steps.refl _))
    by_cases hcd : cd = cd'
    · subst hcd
      have c13 : Steps p.tables e below (s₁.setTop (entryFrame m #[.ref x, .ref y] 3)) (T11.setTop (mkF m 37 #[.val (.ref x), .val (.ref y), .val (.ref y)] [.ref x])) := c12.trans (by
        refine XS.icmpNo X11.here hexec rfl (hb hbytes d33) rfl (ii_ne_f rfl) ?_
        refine XS.aloadN X11.here hexec rfl (hb hbytes d36) rfl rfl ?_
        exact Steps.refl _)
      obtain ⟨T14, X14, q14, st14⟩ := X11.hget hexec hown (wk W (.fieldLink "java/lang/String" 9 "java/lang/String" "value" "[B")) (hx.mv X11.warmed.alike hh11).2.1 (g := (mkF m 37 #[.val (.ref x), .val (.ref y), .val (.ref y)] [.ref x])) rfl (rest := []) rfl (hb hbytes d37)
      have hh14 := q14.trans hh11
      have c15 : Steps p.tables e below (s₁.setTop (entryFrame m #[.ref x, .ref y] 3)) (T14.setTop (mkF m 41 #[.val (.ref x), .val (.ref y), .val (.ref y)] [.ref y, .ref t])) := (c13.trans (st14 _ (Steps.refl _))).trans (by
        refine XS.aloadN X14.here hexec rfl (hb hbytes d40) rfl rfl ?_
        exact Steps.refl _)
      obtain ⟨T16, X16, q16, st16⟩ := X14.hget hexec hown (wk W (.fieldLink "java/lang/String" 9 "java/lang/String" "value" "[B")) (hy.mv X14.warmed.alike hh14).2.1 (g := (mkF m 41 #[.val (.ref x), .val (.ref y), .val (.ref y)] [.ref y, .ref t])) rfl (rest := [.ref t]) rfl (hb hbytes d41)
      have hh16 := q16.trans hh14
      have c17 : Steps p.tables e below (s₁.setTop (entryFrame m #[.ref x, .ref y] 3)) (T16.setTop (mkF m 44 #[.val (.ref x), .val (.ref y), .val (.ref y)] [.ref t', .ref t])) := c15.trans (st16 _ (Steps.refl _))
      obtain ⟨v18, T18, X18, E18, g18⟩ := X16.callS hexec (LEq.law l t V t' V') hown (wks W (staticW "java/lang/String" 541 LEq.yN)) (wk W LEq.tab) (W := 0) (Nat.le_of_ble_eq_true rfl) (Nat.le_of_ble_eq_true rfl) (Nat.le_refl _) (Nat.le_refl _) (g := (mkF m 44 #[.val (.ref x), .val (.ref y), .val (.ref y)] [.ref t', .ref t])) rfl (by rw [hml]; rfl) c17 (argsL := [.ref t, .ref t']) (rest := []) rfl rfl (by show 2 * 0 + 0 ≤ _; decide) (hb hbytes d44) (⟨rfl, hx.2.2.2.1.mv X16.warmed.alike hh16, hx.2.2.2.2.1.ty, hy.2.2.2.1.mv X16.warmed.alike hh16, hy.2.2.2.2.1.ty⟩)
      obtain ⟨v, rfl, q18, hv⟩ := E18
      have iff := Cod.eqv hx.2.2.2.2.1 hy.2.2.2.2.1 hx.2.2.2.2.2 hy.2.2.2.2.2
      rcases hv with ⟨rfl, he⟩ | ⟨rfl, he⟩
      · have c19 : Steps p.tables e below (s₁.setTop (entryFrame m #[.ref x, .ref y] 3)) (T18.setTop (mkF m 55 #[.val (.ref x), .val (.ref y), .val (.ref y)] [.int 1])) := Steps.trans g18 (by
          refine XS.ifNo X18.here hexec rfl (hb hbytes d47) rfl (i0_eq_f (by decide)) ?_
          refine iconstV X18.here hexec rfl 1 (hb hbytes d50) (by decide) ?_
          refine XS.goto X18.here hexec rfl (pc0 := 51) rfl (hb hbytes d51) (by decide) rfl ?_
          exact Steps.refl _)
        exact ⟨T18, some (.int 1), _, _, _, X18, rfl, rfl, rfl, (fun h => by cases h), ⟨1, rfl, q18.trans hh16, Or.inl ⟨rfl, iff.mp he⟩⟩, fun fs hl => c19.trans (X18.ireturnOut hexec hret rfl (Or.inr (Or.inl rfl)) (hb hbytes d55) hl)⟩
      · have c19 : Steps p.tables e below (s₁.setTop (entryFrame m #[.ref x, .ref y] 3)) (T18.setTop (mkF m 55 #[.val (.ref x), .val (.ref y), .val (.ref y)] [.int 0])) := Steps.trans g18 (by
          refine XS.ifYes X18.here hexec rfl (pc0 := 47) rfl (hb hbytes d47) rfl (i0_eq_t rfl) (by decide) rfl ?_
          refine iconstV X18.here hexec rfl 0 (hb hbytes d54) (by decide) ?_
          exact Steps.refl _)
        exact ⟨T18, some (.int 0), _, _, _, X18, rfl, rfl, rfl, (fun h => by cases h), ⟨0, rfl, q18.trans hh16, Or.inr ⟨rfl, fun q => he (iff.mpr q)⟩⟩, fun fs hl => c19.trans (X18.ireturnOut hexec hret rfl (Or.inr (Or.inl rfl)) (hb hbytes d55) hl)⟩
    · have c13 : Steps p.tables e below (s₁.setTop (entryFrame m #[.ref x, .ref y] 3)) (T11.setTop (mkF m 55 #[.val (.ref x), .val (.ref y), .val (.ref y)] [.int 0])) := c12.trans (by
        refine XS.icmpYes X11.here hexec rfl (pc0 := 33) rfl (hb hbytes d33) rfl (ii_ne_t hcd) (by decide) rfl ?_
        refine iconstV X11.here hexec rfl 0 (hb hbytes d54) (by decide) ?_
        exact Steps.refl _)
      exact ⟨T11, some (.int 0), _, _, _, X11, rfl, rfl, rfl, (fun h => by cases h), ⟨0, rfl, hh11, Or.inr ⟨rfl, Cod.dif hx.2.2.2.2.1 hy.2.2.2.2.1 hcd⟩⟩, fun fs hl => c13.trans (X11.ireturnOut hexec hret rfl (Or.inr (Or.inl rfl)) (hb hbytes d55) hl)⟩
theorem pays {l : Launch} {R : Room} {p : Program} {e : Env} {below : List Frame} {s : State} {sargs : Array Value} {len W : Nat} (x t : Addr) (V : Cell) (cd : Int32) (n : Nat) (f : Nat → Int32) (y t' : Addr) (V' : Cell) (cd' : Int32) (k : Nat) (g : Nat → Int32) (z : Int32) (htab : tab.before sargs s = true) (hfr : 2 ≤ R.frames) (hlo : W + 28 ≤ R.locals) :
    Back l R p e below s sargs yN len W (fun A₁ a₁ => A₁.cells + 0 ≤ R.cells ∧ A₁.slots + 0 ≤ R.slots ∧ P x t V cd n f y t' V' cd' k g z a₁ A₁.U) (fun A₁ _ v₁ B₁ => Says01 (SameT n f k g) v₁ A₁.U B₁.U ∧ B₁.locs = A₁.locs ++ [] ∧ B₁.cells = A₁.cells + 0 ∧ B₁.slots = A₁.slots + 0) :=
  (law l x t V cd n f y t' V' cd' k g z).pays htab hfr (by omega)
end SEq
end StrChars
namespace StrChars.Road
open Jvm Sem ClassFile Op Lib Jvm.Stand Jvm.Free Jvm.Free.XT
open Jvm.Lib.Cold (StaticIs)
/-- the words of String.equals(Object) -/
abbrev wordsEq : List Jvm.Cond := [.code SEq.yN SEq.yB 3 (some .boolean), .initialized ST, .classLink ST 10 ST, .fieldLink ST 38 ST "COMPACT_STRINGS" "Z", .fieldLink ST 15 ST "coder" "B", .fieldLink ST 9 ST "value" "[B", .methodLink ST 541 LEq.yN, .static LEq.yN, .code LEq.yN LEq.yB 3 (some .boolean), .initialized "java/lang/StringLatin1"]
theorem tabEq_of {a : Array Value} {s : State} (h : ∀ w ∈ wordsEq, w.before a s = true) : SEq.tab.before a s = true := by
  have hl : LEq.tab.before a s = true := unparts (wk h (.code LEq.yN LEq.yB 3 (some .boolean))) (wks h (.initialized LEq.yN.cls :: LEq.site))
  have q := consq hl h
  exact unparts (wk q (.code SEq.yN SEq.yB 3 (some .boolean))) (wks q (.initialized SEq.yN.cls :: SEq.site))
theorem movedEq {Z s : State} {a0 args : Array Value} (hZ : Z.Warmed39 s.vm) (hw : ∀ d ∈ wordsEq, d.before a0 Z = true) : ∀ d ∈ wordsEq, d.before args s = true := fun d hd => by
  have t : ∀ d ∈ wordsEq, (d.onTables && d.keepsFace) = true := by decide +kernel
  exact RoadKit.mv hZ (hw d hd) (t d hd)
/-- the road's facts of a String, as the laws ask it -/
theorem txt_of {Z U : State} {a0 : Array Value} {kI : Nat} (wi : (Jvm.Cond.instantiable ST kI).before a0 Z = true) (al : Z.vm.Alike U.vm) {x t : Addr} {kb : ClassId} {cs : List Int32} {cd N2 : Int32} {vs : List Value} (E : RoadKit.Exa Z U.heap x ST) (V : RoadKit.Fld Z U.heap x ST "value" "[B" (.ref t)) (C : RoadKit.Fld Z U.heap x ST "coder" "B" (.int cd)) (K : RoadKit.Arv Z U.heap t kb .byte N2 vs (.int 0)) (hc : CodA cs cd N2 vs) (hb : ∀ c ∈ cs, ¬ c < 0 ∧ ¬ (65535 : Int32) < c) (l2 : cs.length ≤ 4000) :
    ∃ A, Txt x t A cd cs.length (fun j => cs.getD j 0) U := by
  obtain ⟨A, K1, K2, K3, K4, K5, K6⟩ := K
  have hcod := hc.cod (by omega) K3 K5
  obtain ⟨D, fV, fC, hB, F1, F2, g1, g2, -, -⟩ := strObj wi al E V C
  exact ⟨A, ⟨_, hB.2.2.1, D, hB.1, rfl, by cases q : D.vm <;> first | rfl | exact absurd q (hB.2.1.2 _)⟩, Has.of hB F1 g1, Has.of hB F2 g2, ⟨K1.1, State.isArrayOf_alike al K1.2.1, K1.2.2, by rcases hcod with ⟨-, q, -⟩ | ⟨-, q, -⟩ <;> omega⟩, hcod, fun j hj => by
    have e : cs.getD j 0 = cs[j] := by simp [List.getD_eq_getElem?_getD, hj]
    show ¬ cs.getD j 0 < 0 ∧ ¬ 65535 < cs.getD j 0
    rw [e]; exact hb _ (List.getElem_mem _)⟩
theorem same_list (cs ds : List Int32) : SameT cs.length (fun j => cs.getD j 0) ds.length (fun j => ds.getD j 0) ↔ cs = ds := by
  constructor
  · rintro ⟨e, q⟩
    refine List.ext_getElem e fun j h1 h2 => ?_
    have := q j h1
    simpa [List.getD_eq_getElem?_getD, h1, h2] using this
  · rintro rfl
    exact ⟨rfl, fun _ _ => rfl⟩
/-- **equals(Object) OF TWO SUCH STRINGS**: 1 just where the chars are the same -/
theorem eqW {p : Program} {l : Launch} {e : Env} {R : Room} {s : State} {args : Array Value} {below : List Frame} {len W : Nat} {Z : State} {a0 : Array Value} {h : Heap} (hZ : Z.Warmed39 s.vm) (hw : ∀ d ∈ wordsEq, d.before a0 Z = true) {kI : Nat} (wi : (Jvm.Cond.instantiable ST kI).before a0 Z = true)
    {x t : Addr} {kb : ClassId} {cs : List Int32} {cd N2 : Int32} {vs : List Value} (E : RoadKit.Exa Z h x ST) (V : RoadKit.Fld Z h x ST "value" "[B" (.ref t)) (C : RoadKit.Fld Z h x ST "coder" "B" (.int cd)) (K : RoadKit.Arv Z h t kb .byte N2 vs (.int 0)) (hc : CodA cs cd N2 vs) (hb : ∀ c ∈ cs, ¬ c < 0 ∧ ¬ (65535 : Int32) < c) (l2 : cs.length ≤ 4000)
    {y t' : Addr} {kb' : ClassId} {ds : List Int32} {cd' N2' : Int32} {vs' : List Value} (E' : RoadKit.Exa Z h y ST) (V' : RoadKit.Fld Z h y ST "value" "[B" (.ref t')) (C' : RoadKit.Fld Z h y ST "coder" "B" (.int cd')) (K' : RoadKit.Arv Z h t' kb' .byte N2' vs' (.int 0)) (hc' : CodA ds cd' N2' vs') (hb' : ∀ c ∈ ds, ¬ c < 0 ∧ ¬ (65535 : Int32) < c) (l2' : ds.length ≤ 4000)
    {z : Int32} (S : RoadKit.Sta Z h ST "COMPACT_STRINGS" "Z" (.int z)) (hz : ¬ z = 0) (hfr : 2 ≤ R.frames) (hlo : W + 28 ≤ R.locals) :
    Back l R p e below s args (⟨"java/lang/String", "equals", "(Ljava/lang/Object;)Z"⟩ : MethodName) len W (fun P a => a = #[.ref x, .ref y] ∧ P.U.heap = h ∧ P.cells + 0 ≤ R.cells ∧ P.slots + 0 ≤ R.slots)
      (fun P _ v B => ∃ L, (((v = some (.int 1) ∧ cs = ds) ∨ (v = some (.int 0) ∧ ¬ cs = ds)) ∧ L = [] ∧ B.U.heap = h) ∧ B.locs = P.locs ++ L ∧ B.cells = P.cells + 0 ∧ B.slots = P.slots + 0) := by
  intro m meth c P g ig mk a X hg hsize hdg hW hn hp'
  obtain ⟨rfl, rfl, r1, r2⟩ := hp'
  have al : Z.vm.Alike P.U.vm := hZ.alike.trans X.warmed.alike
  obtain ⟨A, hx⟩ := txt_of wi al E V C K hc hb l2
  obtain ⟨A', hy⟩ := txt_of wi al E' V' C' K' hc' hb' l2'
  obtain ⟨v, B, X', ⟨⟨w, hv, hh, hq⟩, hl, hk, hs⟩, st⟩ := SEq.pays x t A cd cs.length (fun j => cs.getD j 0) y t' A' cd' ds.length (fun j => ds.getD j 0) z (tabEq_of (movedEq hZ hw)) hfr hlo m meth c P g ig mk _ X hg hsize hdg hW hn ⟨r1, r2, rfl, hx, hy, sta_is al S, hz⟩
  refine ⟨v, B, X', ⟨[], ⟨?_, rfl, hh⟩, hl, hk, hs⟩, st⟩
  rcases hq with ⟨rfl, q⟩ | ⟨rfl, q⟩
  · exact Or.inl ⟨hv, (same_list cs ds).mp q⟩
  · exact Or.inr ⟨hv, fun e => q ((same_list cs ds).mpr e)⟩
end StrChars.Road
namespace StrChars.Road
open Jvm Sem ClassFile Op Lib Jvm.Stand Jvm.Free Jvm.Free.XT
open Jvm.Lib.Cold (StaticIs)
/-- what backV says of its String, as the contracts of this text ask it: cs's low bytes, coder 0 -/
theorem codOf {cs : List Int32} {n : Nat} (hn : cs.length = n) (hb : ∀ c ∈ cs, ¬ 255 < c) : CodA cs 0 (Int32.ofNat n) ((cs.map lo8).map Value.int) := Or.inl ⟨rfl, by rw [hn], by simp [List.map_map, Function.comp_def], hb⟩
end StrChars.Road
end Jvm.Pilot.@@N@@
namespace Jvm.RoadKit
open Sem ClassFile Op Lib Jvm.Stand Jvm.Free Jvm.LawKit
section New
variable {p : Program} {l : Launch} {e : Env} {R : Room} {s : State} {m : MethodId} {args : Array Value} {below : List Frame} {meth : Method} {c : Code} {T : State} {locs : List Loc} {cells slots : Nat}
theorem retI (X : Stand p l e R s m args below meth c T locs cells slots) (hx : p.tables.exec = Jvm.exec) {pc : Nat} {Ls : Array Slot} {z : Int32} {rest : List Value} (hret : meth.sig.returnType = some .int) (hd : decode c.code pc = .ok (.ireturn, 1)) {fs : List Frame}
    (hl : ∀ (f : JFrame) (acts : List Action), f.method = m → f.locked = none → f.entered = [] → (doReturn e (T.setTop f) acts (some (.int z))).1 = T.setFrames fs) : Steps p.tables e below (T.setTop (mkF m pc Ls (.int z :: rest))) (T.setFrames fs) :=
  retOut X hx hret rfl (Or.inl ⟨rfl, Or.inl rfl, _, rfl⟩) hd hl
theorem retJ (X : Stand p l e R s m args below meth c T locs cells slots) (hx : p.tables.exec = Jvm.exec) {pc : Nat} {Ls : Array Slot} {z : Int64} {rest : List Value} (hret : meth.sig.returnType = some .long) (hd : decode c.code pc = .ok (.lreturn, 1)) {fs : List Frame}
    (hl : ∀ (f : JFrame) (acts : List Action), f.method = m → f.locked = none → f.entered = [] → (doReturn e (T.setTop f) acts (some (.long z))).1 = T.setFrames fs) : Steps p.tables e below (T.setTop (mkF m pc Ls (.long z :: rest))) (T.setFrames fs) :=
  retOut X hx hret rfl (Or.inr (Or.inl ⟨rfl, rfl, _, rfl⟩)) hd hl
theorem retR (X : Stand p l e R s m args below meth c T locs cells slots) (hx : p.tables.exec = Jvm.exec) {pc : Nat} {Ls : Array Slot} {w : Value} {t : FieldType} {rest : List Value} (hret : meth.sig.returnType = some t) (ht : t.isReference = true) (hv : w.isRef = true) (hd : decode c.code pc = .ok (.areturn, 1)) {fs : List Frame}
    (hl : ∀ (f : JFrame) (acts : List Action), f.method = m → f.locked = none → f.entered = [] → (doReturn e (T.setTop f) acts (some w)).1 = T.setFrames fs) : Steps p.tables e below (T.setTop (mkF m pc Ls (w :: rest))) (T.setFrames fs) :=
  retOut X hx hret (by cases t <;> simp_all [narrow, FieldType.isReference]) (Or.inr (Or.inr (Or.inr (Or.inr ⟨rfl, ht, hv⟩)))) hd hl
end New
end Jvm.RoadKit
namespace Jvm.Pilot.@@N@@
open Jvm Jvm.ClassFile Sem Op Lib Jvm.Free Jvm.Stand Jvm.LawKit Jvm.RoadKit Bundle Jvm.Pilot.@@N@@.Jvm.D
def Done (p : Program) (e : Env) (below : List Frame) (P : State → Outcome → Prop) (A : State) : Prop := ∃ s₂ o, Steps p.tables e below A s₂ ∧ s₂.status = .running ∧ Ended s₂ below o ∧ P s₂ o
theorem Done.st {p : Program} {e : Env} {below : List Frame} {P : State → Outcome → Prop} {A B : State} (k : ∀ t, Steps p.tables e below B t → Steps p.tables e below A t) (h : Done p e below P B) : Done p e below P A := by
  obtain ⟨s₂, o, h1, h2⟩ := h; exact ⟨s₂, o, k _ h1, h2⟩
theorem Done.fin {p : Program} {e : Env} {below : List Frame} {P : State → Outcome → Prop} {A U : State} {o : Outcome} (k : Steps p.tables e below A U) (h1 : U.status = .running) (h2 : Ended U below o) (h3 : P U o) : Done p e below P A := ⟨U, o, k, h1, h2, h3⟩
theorem d1_0 : decode method_3_code 0 = .ok (.iload_n 0, 1) := by decide +kernel
theorem d1_1 : decode method_3_code 1 = .ok (.ifCond .ne 14, 3) := by decide +kernel
theorem d1_4 : decode method_3_code 4 = .ok (.new 40, 3) := by decide +kernel
theorem d1_7 : decode method_3_code 7 = .ok (.dup, 1) := by decide +kernel
theorem d1_8 : decode method_3_code 8 = .ok (.iconst 0, 1) := by decide +kernel
theorem d1_9 : decode method_3_code 9 = .ok (.newarray .char, 2) := by decide +kernel
theorem d1_11 : decode method_3_code 11 = .ok (.invokespecial 42, 3) := by decide +kernel
theorem d1_14 : decode method_3_code 14 = .ok (.areturn, 1) := by decide +kernel
theorem d1_15 : decode method_3_code 15 = .ok (.iload_n 0, 1) := by decide +kernel
theorem d1_16 : decode method_3_code 16 = .ok (.iconst 1, 1) := by decide +kernel
theorem d1_17 : decode method_3_code 17 = .ok (.if_icmp .ne 18, 3) := by decide +kernel
theorem d1_20 : decode method_3_code 20 = .ok (.new 40, 3) := by decide +kernel
theorem d1_23 : decode method_3_code 23 = .ok (.dup, 1) := by decide +kernel
theorem d1_24 : decode method_3_code 24 = .ok (.iconst 1, 1) := by decide +kernel
theorem d1_25 : decode method_3_code 25 = .ok (.newarray .char, 2) := by decide +kernel
theorem d1_27 : decode method_3_code 27 = .ok (.dup, 1) := by decide +kernel
theorem d1_28 : decode method_3_code 28 = .ok (.iconst 0, 1) := by decide +kernel
theorem d1_29 : decode method_3_code 29 = .ok (.iload_n 1, 1) := by decide +kernel
theorem d1_30 : decode method_3_code 30 = .ok (.castore, 1) := by decide +kernel
theorem d1_31 : decode method_3_code 31 = .ok (.invokespecial 42, 3) := by decide +kernel
theorem d1_34 : decode method_3_code 34 = .ok (.areturn, 1) := by decide +kernel
theorem d1_35 : decode method_3_code 35 = .ok (.iload_n 0, 1) := by decide +kernel
theorem d1_36 : decode method_3_code 36 = .ok (.iconst 2, 1) := by decide +kernel
theorem d1_37 : decode method_3_code 37 = .ok (.if_icmp .ne 22, 3) := by decide +kernel
theorem d1_40 : decode method_3_code 40 = .ok (.new 40, 3) := by decide +kernel
theorem d1_43 : decode method_3_code 43 = .ok (.dup, 1) := by decide +kernel
theorem d1_44 : decode method_3_code 44 = .ok (.iconst 2, 1) := by decide +kernel
theorem d1_45 : decode method_3_code 45 = .ok (.newarray .char, 2) := by decide +kernel
theorem d1_47 : decode method_3_code 47 = .ok (.dup, 1) := by decide +kernel
theorem d1_48 : decode method_3_code 48 = .ok (.iconst 0, 1) := by decide +kernel
theorem d1_49 : decode method_3_code 49 = .ok (.iload_n 1, 1) := by decide +kernel
theorem d1_50 : decode method_3_code 50 = .ok (.castore, 1) := by decide +kernel
theorem d1_51 : decode method_3_code 51 = .ok (.dup, 1) := by decide +kernel
theorem d1_52 : decode method_3_code 52 = .ok (.iconst 1, 1) := by decide +kernel
theorem d1_53 : decode method_3_code 53 = .ok (.iload_n 2, 1) := by decide +kernel
theorem d1_54 : decode method_3_code 54 = .ok (.castore, 1) := by decide +kernel
theorem d1_55 : decode method_3_code 55 = .ok (.invokespecial 42, 3) := by decide +kernel
theorem d1_58 : decode method_3_code 58 = .ok (.areturn, 1) := by decide +kernel
theorem d1_59 : decode method_3_code 59 = .ok (.new 40, 3) := by decide +kernel
theorem d1_62 : decode method_3_code 62 = .ok (.dup, 1) := by decide +kernel
theorem d1_63 : decode method_3_code 63 = .ok (.iconst 3, 1) := by decide +kernel
theorem d1_64 : decode method_3_code 64 = .ok (.newarray .char, 2) := by decide +kernel
theorem d1_66 : decode method_3_code 66 = .ok (.dup, 1) := by decide +kernel
theorem d1_67 : decode method_3_code 67 = .ok (.iconst 0, 1) := by decide +kernel
theorem d1_68 : decode method_3_code 68 = .ok (.iload_n 1, 1) := by decide +kernel
theorem d1_69 : decode method_3_code 69 = .ok (.castore, 1) := by decide +kernel
theorem d1_70 : decode method_3_code 70 = .ok (.dup, 1) := by decide +kernel
theorem d1_71 : decode method_3_code 71 = .ok (.iconst 1, 1) := by decide +kernel
theorem d1_72 : decode method_3_code 72 = .ok (.iload_n 2, 1) := by decide +kernel
theorem d1_73 : decode method_3_code 73 = .ok (.castore, 1) := by decide +kernel
theorem d1_74 : decode method_3_code 74 = .ok (.dup, 1) := by decide +kernel
theorem d1_75 : decode method_3_code 75 = .ok (.iconst 2, 1) := by decide +kernel
theorem d1_76 : decode method_3_code 76 = .ok (.iload_n 3, 1) := by decide +kernel
theorem d1_77 : decode method_3_code 77 = .ok (.castore, 1) := by decide +kernel
theorem d1_78 : decode method_3_code 78 = .ok (.invokespecial 42, 3) := by decide +kernel
theorem d1_81 : decode method_3_code 81 = .ok (.areturn, 1) := by decide +kernel
theorem d2_0 : decode jdk_42_method_3_code 0 = .ok (.aload_n 0, 1) := by decide +kernel
theorem d2_1 : decode jdk_42_method_3_code 1 = .ok (.aload_n 1, 1) := by decide +kernel
theorem d2_2 : decode jdk_42_method_3_code 2 = .ok (.iconst 0, 1) := by decide +kernel
theorem d2_3 : decode jdk_42_method_3_code 3 = .ok (.aload_n 1, 1) := by decide +kernel
theorem d2_4 : decode jdk_42_method_3_code 4 = .ok (.arraylength, 1) := by decide +kernel
theorem d2_5 : decode jdk_42_method_3_code 5 = .ok (.aconst_null, 1) := by decide +kernel
theorem d2_6 : decode jdk_42_method_3_code 6 = .ok (.invokespecial 27, 3) := by decide +kernel
theorem d2_9 : decode jdk_42_method_3_code 9 = .ok (.return_, 1) := by decide +kernel
theorem d3_0 : decode jdk_42_method_149_code 0 = .ok (.aload_n 0, 1) := by decide +kernel
theorem d3_1 : decode jdk_42_method_149_code 1 = .ok (.invokespecial 1, 3) := by decide +kernel
theorem d3_4 : decode jdk_42_method_149_code 4 = .ok (.iload_n 3, 1) := by decide +kernel
theorem d3_5 : decode jdk_42_method_149_code 5 = .ok (.ifCond .ne 22, 3) := by decide +kernel
theorem d3_8 : decode jdk_42_method_149_code 8 = .ok (.aload_n 0, 1) := by decide +kernel
theorem d3_9 : decode jdk_42_method_149_code 9 = .ok (.ldc 7, 2) := by decide +kernel
theorem d3_11 : decode jdk_42_method_149_code 11 = .ok (.getfield 9, 3) := by decide +kernel
theorem d3_14 : decode jdk_42_method_149_code 14 = .ok (.putfield 9, 3) := by decide +kernel
theorem d3_17 : decode jdk_42_method_149_code 17 = .ok (.aload_n 0, 1) := by decide +kernel
theorem d3_18 : decode jdk_42_method_149_code 18 = .ok (.ldc 7, 2) := by decide +kernel
theorem d3_20 : decode jdk_42_method_149_code 20 = .ok (.getfield 15, 3) := by decide +kernel
theorem d3_23 : decode jdk_42_method_149_code 23 = .ok (.putfield 15, 3) := by decide +kernel
theorem d3_26 : decode jdk_42_method_149_code 26 = .ok (.return_, 1) := by decide +kernel
theorem d8_0 : decode method_2_code 0 = .ok (.iload_n 0, 1) := by decide +kernel
theorem d8_1 : decode method_2_code 1 = .ok (.ifCond .ne 7, 3) := by decide +kernel
theorem d8_4 : decode method_2_code 4 = .ok (.getstatic 7, 3) := by decide +kernel
theorem d8_7 : decode method_2_code 7 = .ok (.areturn, 1) := by decide +kernel
theorem d8_8 : decode method_2_code 8 = .ok (.iload_n 0, 1) := by decide +kernel
theorem d8_9 : decode method_2_code 9 = .ok (.iconst 1, 1) := by decide +kernel
theorem d8_10 : decode method_2_code 10 = .ok (.if_icmp .ne 7, 3) := by decide +kernel
theorem d8_13 : decode method_2_code 13 = .ok (.getstatic 13, 3) := by decide +kernel
theorem d8_16 : decode method_2_code 16 = .ok (.areturn, 1) := by decide +kernel
theorem d8_17 : decode method_2_code 17 = .ok (.iload_n 0, 1) := by decide +kernel
theorem d8_18 : decode method_2_code 18 = .ok (.iconst 2, 1) := by decide +kernel
theorem d8_19 : decode method_2_code 19 = .ok (.if_icmp .ne 7, 3) := by decide +kernel
theorem d8_22 : decode method_2_code 22 = .ok (.getstatic 16, 3) := by decide +kernel
theorem d8_25 : decode method_2_code 25 = .ok (.areturn, 1) := by decide +kernel
theorem d8_26 : decode method_2_code 26 = .ok (.iload_n 0, 1) := by decide +kernel
theorem d8_27 : decode method_2_code 27 = .ok (.iconst 3, 1) := by decide +kernel
theorem d8_28 : decode method_2_code 28 = .ok (.if_icmp .ne 7, 3) := by decide +kernel
theorem d8_31 : decode method_2_code 31 = .ok (.getstatic 19, 3) := by decide +kernel
theorem d8_34 : decode method_2_code 34 = .ok (.areturn, 1) := by decide +kernel
theorem d8_35 : decode method_2_code 35 = .ok (.iload_n 0, 1) := by decide +kernel
theorem d8_36 : decode method_2_code 36 = .ok (.iconst 4, 1) := by decide +kernel
theorem d8_37 : decode method_2_code 37 = .ok (.if_icmp .ne 7, 3) := by decide +kernel
theorem d8_40 : decode method_2_code 40 = .ok (.getstatic 22, 3) := by decide +kernel
theorem d8_43 : decode method_2_code 43 = .ok (.areturn, 1) := by decide +kernel
theorem d8_44 : decode method_2_code 44 = .ok (.iload_n 0, 1) := by decide +kernel
theorem d8_45 : decode method_2_code 45 = .ok (.iconst 5, 1) := by decide +kernel
theorem d8_46 : decode method_2_code 46 = .ok (.if_icmp .ne 7, 3) := by decide +kernel
theorem d8_49 : decode method_2_code 49 = .ok (.getstatic 25, 3) := by decide +kernel
theorem d8_52 : decode method_2_code 52 = .ok (.areturn, 1) := by decide +kernel
theorem d8_53 : decode method_2_code 53 = .ok (.iload_n 0, 1) := by decide +kernel
theorem d8_54 : decode method_2_code 54 = .ok (.bipush 6, 2) := by decide +kernel
theorem d8_56 : decode method_2_code 56 = .ok (.if_icmp .ne 7, 3) := by decide +kernel
theorem d8_59 : decode method_2_code 59 = .ok (.getstatic 28, 3) := by decide +kernel
theorem d8_62 : decode method_2_code 62 = .ok (.areturn, 1) := by decide +kernel
theorem d8_63 : decode method_2_code 63 = .ok (.iload_n 0, 1) := by decide +kernel
theorem d8_64 : decode method_2_code 64 = .ok (.bipush 7, 2) := by decide +kernel
theorem d8_66 : decode method_2_code 66 = .ok (.if_icmp .ne 7, 3) := by decide +kernel
theorem d8_69 : decode method_2_code 69 = .ok (.getstatic 31, 3) := by decide +kernel
theorem d8_72 : decode method_2_code 72 = .ok (.areturn, 1) := by decide +kernel
theorem d8_73 : decode method_2_code 73 = .ok (.iload_n 0, 1) := by decide +kernel
theorem d8_74 : decode method_2_code 74 = .ok (.bipush 8, 2) := by decide +kernel
theorem d8_76 : decode method_2_code 76 = .ok (.if_icmp .ne 7, 3) := by decide +kernel
theorem d8_79 : decode method_2_code 79 = .ok (.getstatic 34, 3) := by decide +kernel
theorem d8_82 : decode method_2_code 82 = .ok (.areturn, 1) := by decide +kernel
theorem d8_83 : decode method_2_code 83 = .ok (.getstatic 37, 3) := by decide +kernel
theorem d8_86 : decode method_2_code 86 = .ok (.areturn, 1) := by decide +kernel
theorem d9_0 : decode prog_10_method_1_code 0 = .ok (.aload_n 0, 1) := by decide +kernel
theorem d9_1 : decode prog_10_method_1_code 1 = .ok (.invokespecial 1, 3) := by decide +kernel
theorem d9_4 : decode prog_10_method_1_code 4 = .ok (.aload_n 0, 1) := by decide +kernel
theorem d9_5 : decode prog_10_method_1_code 5 = .ok (.aload_n 1, 1) := by decide +kernel
theorem d9_6 : decode prog_10_method_1_code 6 = .ok (.putfield 7, 3) := by decide +kernel
theorem d9_9 : decode prog_10_method_1_code 9 = .ok (.aload_n 0, 1) := by decide +kernel
theorem d9_10 : decode prog_10_method_1_code 10 = .ok (.aload_n 2, 1) := by decide +kernel
theorem d9_11 : decode prog_10_method_1_code 11 = .ok (.putfield 13, 3) := by decide +kernel
theorem d9_14 : decode prog_10_method_1_code 14 = .ok (.aload_n 0, 1) := by decide +kernel
theorem d9_15 : decode prog_10_method_1_code 15 = .ok (.iload_n 3, 1) := by decide +kernel
theorem d9_16 : decode prog_10_method_1_code 16 = .ok (.putfield 17, 3) := by decide +kernel
theorem d9_19 : decode prog_10_method_1_code 19 = .ok (.return_, 1) := by decide +kernel
theorem d10_0 : decode prog_10_method_5_code 0 = .ok (.aload_n 0, 1) := by decide +kernel
theorem d10_1 : decode prog_10_method_5_code 1 = .ok (.getfield 7, 3) := by decide +kernel
theorem d10_4 : decode prog_10_method_5_code 4 = .ok (.aload_n 1, 1) := by decide +kernel
theorem d10_5 : decode prog_10_method_5_code 5 = .ok (.if_acmp .ne 18, 3) := by decide +kernel
theorem d10_8 : decode prog_10_method_5_code 8 = .ok (.aload_n 0, 1) := by decide +kernel
theorem d10_9 : decode prog_10_method_5_code 9 = .ok (.getfield 13, 3) := by decide +kernel
theorem d10_12 : decode prog_10_method_5_code 12 = .ok (.aload_n 2, 1) := by decide +kernel
theorem d10_13 : decode prog_10_method_5_code 13 = .ok (.invokevirtual 21, 3) := by decide +kernel
theorem d10_16 : decode prog_10_method_5_code 16 = .ok (.ifCond .eq 7, 3) := by decide +kernel
theorem d10_19 : decode prog_10_method_5_code 19 = .ok (.iconst 1, 1) := by decide +kernel
theorem d10_20 : decode prog_10_method_5_code 20 = .ok (.goto 4, 3) := by decide +kernel
theorem d10_23 : decode prog_10_method_5_code 23 = .ok (.iconst 0, 1) := by decide +kernel
theorem d10_24 : decode prog_10_method_5_code 24 = .ok (.ireturn, 1) := by decide +kernel
theorem d11_0 : decode jdk_42_method_66_code 0 = .ok (.aload_n 0, 1) := by decide +kernel
theorem d11_1 : decode jdk_42_method_66_code 1 = .ok (.aload_n 1, 1) := by decide +kernel
theorem d11_2 : decode jdk_42_method_66_code 2 = .ok (.if_acmp .ne 5, 3) := by decide +kernel
theorem d11_7 : decode jdk_42_method_66_code 7 = .ok (.aload_n 1, 1) := by decide +kernel
theorem d11_8 : decode jdk_42_method_66_code 8 = .ok (.instanceof 10, 3) := by decide +kernel
theorem d11_11 : decode jdk_42_method_66_code 11 = .ok (.ifCond .eq 43, 3) := by decide +kernel
theorem d11_54 : decode jdk_42_method_66_code 54 = .ok (.iconst 0, 1) := by decide +kernel
theorem d11_55 : decode jdk_42_method_66_code 55 = .ok (.ireturn, 1) := by decide +kernel
theorem pn_0 : plainName "java/lang/String" = true := by first | (simp [plainName, overriddenIn]; done) | decide +kernel
theorem pn_1 : plainName "com/example/libbuchi/libbuchi/automaton/TokenIsPinLaw" = true := by first | (simp [plainName, overriddenIn]; done) | decide +kernel
theorem pn_2 : plainName "com/example/libbuchi/libbuchi/automaton/HoaTokenizer$Token" = true := by first | (simp [plainName, overriddenIn]; done) | decide +kernel
theorem pd_0 : parseMethodDescriptor "([CIILjava/lang/Void;)V" = some ⟨[(.array .char), .int, .int, (.object "java/lang/Void")], none⟩ := by decide +kernel
theorem pd_1 : parseMethodDescriptor "([C)V" = some ⟨[(.array .char)], none⟩ := by decide +kernel
theorem pd_2 : parseMethodDescriptor "(Ljava/lang/Object;)Z" = some ⟨[(.object "java/lang/Object")], some .boolean⟩ := by decide +kernel
theorem pd_3 : parseMethodDescriptor "(ICCC)Ljava/lang/String;" = some ⟨[.int, .char, .char, .char], some (.object "java/lang/String")⟩ := by decide +kernel
theorem pd_4 : parseMethodDescriptor "(I)Lcom/example/libbuchi/libbuchi/automaton/HoaTokenizer$Kind;" = some ⟨[.int], some (.object "com/example/libbuchi/libbuchi/automaton/HoaTokenizer$Kind")⟩ := by decide +kernel
theorem pd_5 : parseMethodDescriptor "(Lcom/example/libbuchi/libbuchi/automaton/HoaTokenizer$Kind;Ljava/lang/String;I)V" = some ⟨[(.object "com/example/libbuchi/libbuchi/automaton/HoaTokenizer$Kind"), (.object "java/lang/String"), .int], none⟩ := by decide +kernel
theorem pd_6 : parseMethodDescriptor "(Lcom/example/libbuchi/libbuchi/automaton/HoaTokenizer$Kind;Ljava/lang/String;)Z" = some ⟨[(.object "com/example/libbuchi/libbuchi/automaton/HoaTokenizer$Kind"), (.object "java/lang/String")], some .boolean⟩ := by decide +kernel
theorem own_eqv {a b : Term} {args : Array Value} {f s : State} {o : Option Outcome} {idx : List Nat} (h : (Cond.eq a b).value args f o s idx = some true) {v : Value} (hb : b.eval args f o idx s = some v) : a.eval args f o idx s = some v := by
  simp only [Cond.value] at h
  rw [hb] at h
  cases ha : a.eval args f o idx s with
  | none => rw [ha] at h; simp at h
  | some x => rw [ha] at h; cases x <;> cases v <;> simp_all

theorem own_ns_exa {Z : State} {h : Heap} {a : Addr} {C : String} (E : Exa Z h a C) : ∃ c : Cell, h[a]? = some c ∧ c.vm.isStatics = false := by obtain ⟨c, _, h1, _, _, h2, _⟩ := E; exact ⟨c, h1, h2⟩
theorem own_sta_keep {Z : State} {h h' : Heap} {C n d : String} {v : Value} {ws : List Addr} (F : Sta Z h C n d v) (K : Keep h h' ws) (q : ∀ x ∈ ws, ∃ c : Cell, h[x]? = some c ∧ c.vm.isStatics = false) : Sta Z h' C n d v := by
  obtain ⟨cf, i, k, f, st, cell, h1, h2, h3, h4, h5, h6, h7⟩ := F
  refine ⟨cf, i, k, f, st, cell, h1, h2, h3, h4, K.2.1 _ _ h5 (fun hm => ?_), h6, h7⟩
  obtain ⟨c, e1, e2⟩ := q _ hm
  rw [h5] at e1
  cases e1
  rw [h6] at e2
  cases e2
theorem own_ins_keep {Z : State} {h h' : Heap} {a : Addr} {C : String} {b : Bool} {ws : List Addr} (F : Ins Z h a C b) (K : Keep h h' ws) : Ins Z h' a C b := by
  obtain ⟨c, cT, h1, h2, h3⟩ := F
  obtain ⟨c', e1, e2, e3, e4⟩ := K.2.2 _ _ h1
  exact ⟨c', cT, e1, h2, by rw [e2, e3]; exact h3⟩

def own_EL : List (String × Nat) := [("java/lang/String", 7)]
def own_NA (Z : State) (h : Heap) (a : Addr) : Prop := ∃ (cell : Cell) (k : Class), h[a]? = some cell ∧ Z.vm.classes[cell.cls]? = some k ∧ k.kind = .ordinary
theorem own_na_exa {Z : State} {a0 : Array Value} {h : Heap} {a : Addr} {C : String} {n : Nat} (E : Exa Z h a C) (w : (Cond.instantiable C n).before a0 Z = true) : own_NA Z h a := by
  obtain ⟨cell, k, h1, h2, h3, -⟩ := E
  obtain ⟨c, k', i1, i2, i3, -⟩ := Cond.instantiable_spec w
  cases h2.symm.trans i1
  cases h3.symm.trans i2
  exact ⟨cell, k, h1, h3, i3⟩
theorem own_na_ne {Z : State} {h : Heap} {a t : Addr} {k : ClassId} {ty : FieldType} {z : Int32} {vs : List Value} {d : Value} (N : own_NA Z h a) (F : Arv Z h t k ty z vs d) : t ≠ a := fun q => by
  subst q
  obtain ⟨cell, kk, h1, h2, h3⟩ := N
  obtain ⟨c, ⟨A1, ⟨-, k2, hk2, comp, hkind⟩, -⟩, -⟩ := F
  cases h1.symm.trans A1
  cases h2.symm.trans hk2
  rw [h3] at hkind
  cases hkind
def Str (Z : State) (h : Heap) (x : Addr) (cs : List Int32) : Prop := ∃ (t : Addr) (kb : ClassId), Exa Z h x "java/lang/String" ∧ Fld Z h x "java/lang/String" "coder" "B" (.int (0 : Int32)) ∧ Fld Z h x "java/lang/String" "value" "[B" (.ref t) ∧ Arv Z h t kb .byte (Int32.ofNat cs.length) ((cs.map fun c => c.toInt8.toInt32).map Value.int) (.int (0 : Int32))
theorem Str.lt {Z : State} {h : Heap} {x : Addr} {cs : List Int32} (F : Str Z h x cs) : x < h.size := by obtain ⟨_, _, E, _⟩ := F; exact E.lt
theorem Str.exa {Z : State} {h : Heap} {x : Addr} {cs : List Int32} (F : Str Z h x cs) : Exa Z h x "java/lang/String" := by obtain ⟨_, _, E, _⟩ := F; exact E
theorem Str.ext {Z : State} {h h' : Heap} {x : Addr} {cs : List Int32} (F : Str Z h x cs) (E : Ext h h') : Str Z h' x cs := by obtain ⟨t, kb, a, b, c, d⟩ := F; exact ⟨t, kb, Exa.ext E a, Fld.ext E b, Fld.ext E c, d.ext E⟩
theorem Str.other {Z : State} {h h' : Heap} {x a : Addr} {cs : List Int32} {sl : Nat} {v : Value} (F : Str Z h x cs) (W : Wr h h' a sl v) (q : x ≠ a) (N : own_NA Z h a) : Str Z h' x cs := by
  obtain ⟨t, kb, f1, f2, f3, f4⟩ := F
  exact ⟨t, kb, Exa.wr W f1, Fld.other W f2 (Or.inl q), Fld.other W f3 (Or.inl q), f4.other W (own_na_ne N f4)⟩
theorem Str.keep {Z : State} {h h' : Heap} {x : Addr} {cs : List Int32} {ws : List Addr} (F : Str Z h x cs) (K : Keep h h' ws) (q : x ∉ ws) (N : ∀ w ∈ ws, own_NA Z h w) : Str Z h' x cs := by
  obtain ⟨t, kb, f1, f2, f3, f4⟩ := F
  exact ⟨t, kb, f1.keep K, f2.keep K q, f3.keep K q, f4.keep K (fun hm => own_na_ne (N _ hm) f4 rfl)⟩

theorem own_blank {Z : State} {EL : List (String × Nat)} {vm : Vm} {h : Heap} {x : Addr} (hal : Z.vm.Alike vm) (E : Exa Z h x "java/lang/String") (V : Fld Z h x "java/lang/String" "value" "[B" .null) : Safe Z EL vm h x := fun B => by
  obtain ⟨p, -, u, a, -, q, -, F, rfl | rfl⟩ := B
  · obtain ⟨cS, ⟨⟨hc, -, -, ⟨c1, k1, i1, f1, -⟩, -, -, -, v1, -⟩, -⟩, -⟩ := F
    obtain ⟨cell, cf, k, i, f, e1, e2, e3, e4, e5, e6, e7⟩ := V
    cases (show h[q.sa]? = some q.sC from hc).symm.trans e1
    obtain ⟨k3, e8, -⟩ := State.fieldFound?_setVm (s := Z) hal e2
    have e9 := (show (Wst Z vm h).fieldFound? _ _ _ = _ from e8).symm.trans f1
    simp only [Option.some.injEq, Prod.mk.injEq] at e9
    rw [← e9.2.2.2, e7] at v1
    simp at v1
  · obtain ⟨cell, k, e1, e2, e3, -, -⟩ := E
    cases (show h[q.sd]? = some q.SA from F.hd).symm.trans e1
    obtain ⟨cS, -, -, f, -⟩ := F
    have f' : vm.findClass "[B" = some q.SA.cls := f
    rw [hal.findClass] at f'
    obtain ⟨k1, q1, q2⟩ := Vm.findClass_spec f'
    obtain ⟨k2, q3, q4⟩ := Vm.findClass_spec e2
    cases q1.symm.trans q3
    exact absurd (q2.symm.trans q4) (by decide)

theorem own_wS {Z : State} {a0 : Array Value} (hw : ∀ d ∈ tables_1, d.before a0 Z = true) : ∀ a ∈ Bundle.stringAtoms, a.before a0 Z = true := fun d hd => hw d ((by decide +kernel : ∀ d ∈ Bundle.stringAtoms, d ∈ tables_1) d hd)

theorem own_nar {x : Int32} (h : ¬ x < 0 ∧ ¬ (255 : Int32) < x) : nar .char x = x := by
  have a := c_i2c x
  have r := rng32 x
  have k0 : (0 : Int32).toInt = 0 := rfl
  have k1 : (255 : Int32).toInt = 255 := rfl
  rw [Int32.lt_iff_toInt_lt, Int32.lt_iff_toInt_lt, k0, k1] at h
  exact Int32.toInt_inj.mp (show (x.toUInt32.toUInt16.toUInt32.toInt32).toInt = x.toInt by omega)
def own_seq (cs ds : List Int32) : Int32 := if cs = ds then 1 else 0
theorem own_nb (x : Int32) : nar .byte (x.toInt8.toInt32) = x.toInt8.toInt32 := by
  show (x.toInt8.toInt32).toInt8.toInt32 = x.toInt8.toInt32
  have h : (x.toInt8.toInt32).toInt8 = x.toInt8 := by simp
  rw [h]

theorem own_ws {Z : State} {a0 : Array Value} (hw : ∀ d ∈ tables_1, d.before a0 Z = true) : ∀ d ∈ StrChars.Road.words, d.before a0 Z = true := fun d hd => hw d ((by decide +kernel : ∀ d ∈ StrChars.Road.words, d ∈ tables_1) d hd)
theorem own_weq {Z : State} {a0 : Array Value} (hw : ∀ d ∈ tables_1, d.before a0 Z = true) : ∀ d ∈ StrChars.Road.wordsEq, d.before a0 Z = true := fun d hd => hw d ((by decide +kernel : ∀ d ∈ StrChars.Road.wordsEq, d ∈ tables_1) d hd)
theorem own_seqv {v : Option Value} {cs ds : List Int32} (h : (v = some (.int 1) ∧ cs = ds) ∨ (v = some (.int 0) ∧ ¬ cs = ds)) : v = some (.int (own_seq cs ds)) := by
  rcases h with ⟨rfl, h⟩ | ⟨rfl, h⟩
  · rw [own_seq, if_pos h]
  · rw [own_seq, if_neg h]
theorem own_up {cs : List Int32} (h : ∀ c ∈ cs, ¬ c < 0 ∧ ¬ (255 : Int32) < c) : ∀ c ∈ cs, ¬ c < 0 ∧ ¬ (65535 : Int32) < c := fun c hc => by
  have z := (h c hc).2
  have k1 : (255 : Int32).toInt = 255 := rfl
  have k2 : (65535 : Int32).toInt = 65535 := rfl
  refine ⟨(h c hc).1, ?_⟩
  rw [Int32.lt_iff_toInt_lt, k1] at z
  rw [Int32.lt_iff_toInt_lt, k2]
  omega
theorem own_l4 {n : Nat} (h : n ≤ 3) : n ≤ 4000 := by omega

def own_kd (i : Int32) (w_HEADER w_IDENTIFIER w_INTEGER w_STRING w_ALIAS w_PUNCTUATION w_BODY w_END w_ABORT w_EOF : Addr) : Addr := if i = 0 then w_HEADER else if i = 1 then w_IDENTIFIER else if i = 2 then w_INTEGER else if i = 3 then w_STRING else if i = 4 then w_ALIAS else if i = 5 then w_PUNCTUATION else if i = 6 then w_BODY else if i = 7 then w_END else if i = 8 then w_ABORT else w_EOF
def own_in10 (i : Int32) : Prop := i = 0 ∨ i = 1 ∨ i = 2 ∨ i = 3 ∨ i = 4 ∨ i = 5 ∨ i = 6 ∨ i = 7 ∨ i = 8 ∨ i = 9
def own_cs (n x y z : Int32) : List Int32 := if n = 0 then [] else if n = 1 then [x] else if n = 2 then [x, y] else [x, y, z]
def own_is (b : Prop) [Decidable b] (r : Int32) : Int32 := if b then r else 0
def own_ok (x : Int32) : Prop := ¬ x < 0 ∧ ¬ (255 : Int32) < x
def own_in4 (n : Int32) : Prop := n = 0 ∨ n = 1 ∨ n = 2 ∨ n = 3
theorem own_ten (t : Int32) : own_in10 ((t &&& 2147483647) % 10) := by
  have k10 : ((10 : Int32)).toInt = 10 := rfl
  have a := c_and t 2147483647 (by decide)
  have b := (c_irem (t &&& 2147483647) 10 10 k10).1 a.1
  have e : ∀ n : Int32, ((t &&& 2147483647) % 10).toInt = n.toInt → (t &&& 2147483647) % 10 = n := fun n h => Int32.toInt_inj.mp h
  have c : ((t &&& 2147483647) % 10).toInt = 0 ∨ ((t &&& 2147483647) % 10).toInt = 1 ∨ ((t &&& 2147483647) % 10).toInt = 2 ∨ ((t &&& 2147483647) % 10).toInt = 3 ∨ ((t &&& 2147483647) % 10).toInt = 4 ∨ ((t &&& 2147483647) % 10).toInt = 5 ∨ ((t &&& 2147483647) % 10).toInt = 6 ∨ ((t &&& 2147483647) % 10).toInt = 7 ∨ ((t &&& 2147483647) % 10).toInt = 8 ∨ ((t &&& 2147483647) % 10).toInt = 9 := by omega
  unfold own_in10
  rcases c with c | c | c | c | c | c | c | c | c | c
  · exact Or.inl (e 0 c)
  · exact (Or.inr (Or.inl (e 1 c)))
  · exact (Or.inr ((Or.inr (Or.inl (e 2 c)))))
  · exact (Or.inr ((Or.inr ((Or.inr (Or.inl (e 3 c)))))))
  · exact (Or.inr ((Or.inr ((Or.inr ((Or.inr (Or.inl (e 4 c)))))))))
  · exact (Or.inr ((Or.inr ((Or.inr ((Or.inr ((Or.inr (Or.inl (e 5 c)))))))))))
  · exact (Or.inr ((Or.inr ((Or.inr ((Or.inr ((Or.inr ((Or.inr (Or.inl (e 6 c)))))))))))))
  · exact (Or.inr ((Or.inr ((Or.inr ((Or.inr ((Or.inr ((Or.inr ((Or.inr (Or.inl (e 7 c)))))))))))))))
  · exact (Or.inr ((Or.inr ((Or.inr ((Or.inr ((Or.inr ((Or.inr ((Or.inr ((Or.inr (Or.inl (e 8 c)))))))))))))))))
  · exact (Or.inr ((Or.inr ((Or.inr ((Or.inr ((Or.inr ((Or.inr ((Or.inr ((Or.inr ((Or.inr (e 9 c))))))))))))))))))
theorem own_four (n : Int32) : own_in4 (n &&& 3) := by
  have a := c_and n 3 (by decide)
  have k3 : (3 : Int32).toInt = 3 := rfl
  have e : ∀ k : Int32, (n &&& 3).toInt = k.toInt → n &&& 3 = k := fun k h => Int32.toInt_inj.mp h
  have c : (n &&& 3).toInt = 0 ∨ (n &&& 3).toInt = 1 ∨ (n &&& 3).toInt = 2 ∨ (n &&& 3).toInt = 3 := by omega
  rcases c with c | c | c | c
  · exact Or.inl (e 0 c)
  · exact Or.inr (Or.inl (e 1 c))
  · exact Or.inr (Or.inr (Or.inl (e 2 c)))
  · exact Or.inr (Or.inr (Or.inr (e 3 c)))
def own_ic (x : Int32) : Int32 := x.toUInt32.toUInt16.toUInt32.toInt32
def own_b8 (x : Int32) : Prop := 0 ≤ x.toInt ∧ x.toInt ≤ 255
theorem own_m8 (x : Int32) : own_b8 (x &&& 255) := by
  have a := c_and x 255 (by decide)
  have k : (255 : Int32).toInt = 255 := rfl
  unfold own_b8; omega
theorem own_icid {x : Int32} (h : own_b8 x) : own_ic x = x := by
  have a := c_i2c x
  unfold own_b8 at h
  exact Int32.toInt_inj.mp (show (x.toUInt32.toUInt16.toUInt32.toInt32).toInt = x.toInt by omega)
theorem own_b8ok {x : Int32} (h : own_b8 x) : own_ok x := by
  have k0 : (0 : Int32).toInt = 0 := rfl
  have k : (255 : Int32).toInt = 255 := rfl
  unfold own_b8 at h
  unfold own_ok
  rw [Int32.lt_iff_toInt_lt, Int32.lt_iff_toInt_lt, k0, k]; omega
theorem own_nat8 {x : Int32} (h : own_b8 x) : x.toBitVec.toNat < 256 := by
  unfold own_b8 at h
  have q : x.toInt = x.toBitVec.toInt := rfl
  rw [q, BitVec.toInt_eq_toNat_cond] at h
  have := x.toBitVec.isLt
  split at h <;> omega
theorem own_8nat {x : Int32} (h : x.toBitVec.toNat < 256) : own_b8 x := by
  unfold own_b8
  have q : x.toInt = x.toBitVec.toInt := rfl
  rw [q, BitVec.toInt_eq_toNat_cond]
  split <;> omega
theorem own_x8 {x y : Int32} (hx : own_b8 x) (hy : own_b8 y) : own_b8 (x ^^^ y) := by
  apply own_8nat
  have e : (x ^^^ y).toBitVec.toNat = x.toBitVec.toNat ^^^ y.toBitVec.toNat := by simp
  rw [e]
  exact Nat.xor_lt_two_pow (n := 8) (own_nat8 hx) (own_nat8 hy)
theorem own_icok {x : Int32} (h : own_b8 x) : own_ok (x.toUInt32.toUInt16.toUInt32.toInt32) := by
  have e : x.toUInt32.toUInt16.toUInt32.toInt32 = x := own_icid h
  rw [e]; exact own_b8ok h
theorem own_xz {x y : Int32} : x ^^^ y = x ↔ y = 0 := by
  constructor
  · intro h
    have e : x ^^^ (x ^^^ y) = x ^^^ x := by rw [h]
    rw [← Int32.xor_assoc, Int32.xor_self, Int32.zero_xor] at e
    exact e
  · intro h; subst h; simp
theorem own_icx {x y : Int32} (hx : own_b8 x) (hy : own_b8 y) : ((x ^^^ y).toUInt32.toUInt16.toUInt32.toInt32 = x.toUInt32.toUInt16.toUInt32.toInt32) ↔ y = 0 := by
  have e1 : (x ^^^ y).toUInt32.toUInt16.toUInt32.toInt32 = x ^^^ y := own_icid (own_x8 hx hy)
  have e2 : x.toUInt32.toUInt16.toUInt32.toInt32 = x := own_icid hx
  rw [e1, e2]; exact own_xz
theorem own_csok {n x y z : Int32} (hx : own_ok x) (hy : own_ok y) (hz : own_ok z) : ∀ c ∈ own_cs n x y z, ¬ c < 0 ∧ ¬ (255 : Int32) < c := by
  intro c hc
  unfold own_cs at hc
  split at hc
  · cases hc
  · split at hc
    · simp only [List.mem_cons, List.not_mem_nil, or_false] at hc; subst hc; exact hx
    · split at hc
      · simp only [List.mem_cons, List.not_mem_nil, or_false] at hc; rcases hc with rfl | rfl; exact hx; exact hy
      · simp only [List.mem_cons, List.not_mem_nil, or_false] at hc; rcases hc with rfl | rfl | rfl; exact hx; exact hy; exact hz
theorem own_cslen (n x y z : Int32) : (own_cs n x y z).length ≤ 3 := by
  unfold own_cs
  repeat' split
  all_goals simp
theorem own_cseq {la lb x y z x' y' z' : Int32} (ha : own_in4 la) (hb : own_in4 lb) : own_cs la x y z = own_cs lb x' y' z' ↔ la = lb ∧ (la < 1 ∨ x = x') ∧ (la < 2 ∨ y = y') ∧ (la < 3 ∨ z = z') := by
  rcases ha with rfl | rfl | rfl | rfl <;> rcases hb with rfl | rfl | rfl | rfl <;> simp +decide [own_cs]
def own_want (i j nul la lb d0 d1 d2 : Int32) : Int32 := if i = j ∧ nul = 0 ∧ la = lb ∧ (la < 1 ∨ d0 = 0) ∧ (la < 2 ∨ d1 = 0) ∧ (la < 3 ∨ d2 = 0) then 1 else 0
theorem own_law {i j la lb x y z d0 d1 d2 : Int32} {b : Prop} [Decidable b] (hb : b ↔ i = j) (ha : own_in4 la) (hlb : own_in4 lb) (hx : own_b8 x) (hy : own_b8 y) (hz : own_b8 z) (h0 : own_b8 d0) (h1 : own_b8 d1) (h2 : own_b8 d2) :
    own_is b (own_seq (own_cs la (x.toUInt32.toUInt16.toUInt32.toInt32) (y.toUInt32.toUInt16.toUInt32.toInt32) (z.toUInt32.toUInt16.toUInt32.toInt32)) (own_cs lb ((x ^^^ d0).toUInt32.toUInt16.toUInt32.toInt32) ((y ^^^ d1).toUInt32.toUInt16.toUInt32.toInt32) ((z ^^^ d2).toUInt32.toUInt16.toUInt32.toInt32))) = own_want i j 0 la lb d0 d1 d2 := by
  have e0 := own_icx hx h0
  have e1 := own_icx hy h1
  have e2 := own_icx hz h2
  have q : own_cs la (x.toUInt32.toUInt16.toUInt32.toInt32) (y.toUInt32.toUInt16.toUInt32.toInt32) (z.toUInt32.toUInt16.toUInt32.toInt32) = own_cs lb ((x ^^^ d0).toUInt32.toUInt16.toUInt32.toInt32) ((y ^^^ d1).toUInt32.toUInt16.toUInt32.toInt32) ((z ^^^ d2).toUInt32.toUInt16.toUInt32.toInt32) ↔ la = lb ∧ (la < 1 ∨ d0 = 0) ∧ (la < 2 ∨ d1 = 0) ∧ (la < 3 ∨ d2 = 0) := by
    rw [own_cseq ha hlb, eq_comm (a := x.toUInt32.toUInt16.toUInt32.toInt32), eq_comm (a := y.toUInt32.toUInt16.toUInt32.toInt32), eq_comm (a := z.toUInt32.toUInt16.toUInt32.toInt32), e0, e1, e2]
  unfold own_is own_seq own_want
  by_cases hij : i = j
  · rw [if_pos (hb.mpr hij)]
    by_cases hc : la = lb ∧ (la < 1 ∨ d0 = 0) ∧ (la < 2 ∨ d1 = 0) ∧ (la < 3 ∨ d2 = 0)
    · rw [if_pos (q.mpr hc), if_pos ⟨hij, rfl, hc⟩]
    · rw [if_neg (fun z => hc (q.mp z)), if_neg (fun z => hc z.2.2)]
  · rw [if_neg (fun z => hij (hb.mp z)), if_neg (fun z => hij z.1)]
theorem own_wnull {i j nul la lb d0 d1 d2 : Int32} (h : ¬ nul = 0) : (0 : Int32) = own_want i j nul la lb d0 d1 d2 := by unfold own_want; rw [if_neg (fun z => h z.2.1)]
theorem own_seq1 {cs ds : List Int32} (h : ¬ own_seq cs ds = 0) : own_seq cs ds = 1 := by
  unfold own_seq at h ⊢
  split <;> rename_i q
  · rfl
  · rw [if_neg q] at h; exact absurd rfl h
theorem own_seq01 {b : Prop} [Decidable b] {r : Int32} (h : r = 0) : own_is b r = 0 := by unfold own_is; split <;> simp [h]

theorem own_kdF {Z : State} {h : Heap} {w_HEADER w_IDENTIFIER w_INTEGER w_STRING w_ALIAS w_PUNCTUATION w_BODY w_END w_ABORT w_EOF : Addr} (F_HEADER : Fld Z h w_HEADER "java/lang/Enum" "ordinal" "I" (.int (0 : Int32))) (F_IDENTIFIER : Fld Z h w_IDENTIFIER "java/lang/Enum" "ordinal" "I" (.int (1 : Int32))) (F_INTEGER : Fld Z h w_INTEGER "java/lang/Enum" "ordinal" "I" (.int (2 : Int32))) (F_STRING : Fld Z h w_STRING "java/lang/Enum" "ordinal" "I" (.int (3 : Int32))) (F_ALIAS : Fld Z h w_ALIAS "java/lang/Enum" "ordinal" "I" (.int (4 : Int32))) (F_PUNCTUATION : Fld Z h w_PUNCTUATION "java/lang/Enum" "ordinal" "I" (.int (5 : Int32))) (F_BODY : Fld Z h w_BODY "java/lang/Enum" "ordinal" "I" (.int (6 : Int32))) (F_END : Fld Z h w_END "java/lang/Enum" "ordinal" "I" (.int (7 : Int32))) (F_ABORT : Fld Z h w_ABORT "java/lang/Enum" "ordinal" "I" (.int (8 : Int32))) (F_EOF : Fld Z h w_EOF "java/lang/Enum" "ordinal" "I" (.int (9 : Int32))) {i : Int32} (hi : own_in10 i) : Fld Z h (own_kd i w_HEADER w_IDENTIFIER w_INTEGER w_STRING w_ALIAS w_PUNCTUATION w_BODY w_END w_ABORT w_EOF) "java/lang/Enum" "ordinal" "I" (.int i) := by
  rcases hi with rfl | rfl | rfl | rfl | rfl | rfl | rfl | rfl | rfl | rfl
  · exact F_HEADER
  · exact F_IDENTIFIER
  · exact F_INTEGER
  · exact F_STRING
  · exact F_ALIAS
  · exact F_PUNCTUATION
  · exact F_BODY
  · exact F_END
  · exact F_ABORT
  · exact F_EOF

theorem ef_rmS5 (m : MethodId) (a : Addr) (b : Addr) : entryFrame m #[(.ref a), (.ref b), (.int (0 : Int32)), (.int (0 : Int32)), .null] 6 = mkF m 0 #[.val (.ref a), .val (.ref b), .val (.int (0 : Int32)), .val (.int (0 : Int32)), .val .null, .unset] [] := by first | (simp [entryFrame, mkF, argsToLocals, Value.category]; done) | rfl
def QrmS5 (Z : State) (a : Addr) (b : Addr) (h0 : Heap) (n0 : Nat) (v : Option Value) (h : Heap) (L : List Loc) : Prop := v = none ∧ Fr n0 L ∧ Keep h0 h [a] ∧ Str Z h a []
def PrmS5 (s : State) (Z : State) (a : Addr) (b : Addr) (h0 : Heap) (n0 : Nat) : State → Outcome → Prop := fun U' o => ∃ v L, o = .returned v ∧ QrmS5 Z a b h0 n0 v U'.heap L ∧ CHr Z own_EL s.vm s.heap U'.vm U'.heap ∧ ReturnedEndW s o U' L ({ frames := 1, cells := 2, slots := 4, locals := 12 } : Room).cells ({ frames := 1, cells := 2, slots := 4, locals := 12 } : Room).slots
set_option maxRecDepth 65536 in
set_option maxHeartbeats 40000000 in
theorem rmS5 (l : Launch) (Z : State) (a0 : Array Value) (hw : ∀ d ∈ tables_1, d.before a0 Z = true) (ws : List Jvm.Cond) (a : Addr) (b : Addr) (h0 : Heap) (n0 : Nat) (Z0 : n0 ≤ h0.size) (Fv : Fld Z h0 a "java/lang/String" "value" "[B" .null) (Fc : Fld Z h0 a "java/lang/String" "coder" "B" (.int (0 : Int32))) (Ea : Exa Z h0 a "java/lang/String") (ga : n0 ≤ a) :
    MetFree l (⟨"java/lang/String", "<init>", "([CIILjava/lang/Void;)V"⟩ : MethodName) (head1 (Jvm.Cond.code (⟨"java/lang/String", "<init>", "([CIILjava/lang/Void;)V"⟩ : MethodName) jdk_42_method_149_code 6 none :: ws) ({ frames := 1, cells := 2, slots := 4, locals := 12 } : Room)) (fun aa U => aa = #[(.ref a), (.ref b), (.int (0 : Int32)), (.int (0 : Int32)), .null] ∧ Z.Warmed39 U.vm ∧ U.heap = h0 ∧ CHv Z own_EL U.vm h0) (fun _ _ _ _ _ => True) (fun _ U o U' => ∃ v L, o = .returned v ∧ QrmS5 Z a b h0 n0 v U'.heap L ∧ CHr Z own_EL U.vm U.heap U'.vm U'.heap ∧ ReturnedEndW U o U' L ({ frames := 1, cells := 2, slots := 4, locals := 12 } : Room).cells ({ frames := 1, cells := 2, slots := 4, locals := 12 } : Room).slots) := by
  refine MetFree.of_bodySF (plainFor_of_name pn_0) hisR ?_
  intro p e s m args below meth c s₁ Bd hml0 hP hK
  obtain ⟨rfl, hZ, hh, hC0⟩ := hP
  have hx := Bd.exec
  have hlk : meth.locks = false := by first | exact BodyLoose.notSynchronized Bd | exact Body.notSynchronized Bd
  have hby := Bd.bytes
  have hml : c.maxLocals = 6 := hml0
  have hown : s.vm.findClass "java/lang/String" = some m.cls := findClass_of_methodNamed Bd.named
  have hnm := (name_of_methodNamed Bd.named Bd.method).1
  have X0 : Stand p l e ({ frames := 1, cells := 2, slots := 4, locals := 12 } : Room) (s.setVm s.vm) m #[(.ref a), (.ref b), (.int (0 : Int32)), (.int (0 : Int32)), .null] below meth c s₁ [] 0 0 := Stand.of_body Bd
  have e0 : s₁.heap = h0 := by rw [← hh, Bd.state]; rfl
  have N0 := Fr.nil n0
  have hEL : EW Z a0 own_EL := EW.cons (hw _ (List.mem_of_getElem? (i := 19) rfl)) (by decide) EW.nil
  have hS0 : s.Since s.vm 0 := (State.WarmedH.refl s).since 0
  have hk0 : 0 ≤ h0.size := Nat.zero_le _
  have R0 : CHr Z own_EL s.vm h0 s.vm h0 := CHr.refl hC0
  show Done p e below (PrmS5 s Z a b h0 n0) (s₁.setTop (entryFrame m #[(.ref a), (.ref b), (.int (0 : Int32)), (.int (0 : Int32)), .null] 6))
  refine Done.st (B := s₁.setTop (mkF m 0 #[.val (.ref a), .val (.ref b), .val (.int (0 : Int32)), .val (.int (0 : Int32)), .val .null, .unset] [])) (fun _ k => castTop (ef_rmS5 m a b) k) ?_
  refine Done.st (B := s₁.setTop (mkF m 1 #[.val (.ref a), .val (.ref b), .val (.int (0 : Int32)), .val (.int (0 : Int32)), .val .null, .unset] [(.ref a)])) (fun _ k => XS.aloadN X0.here hx rfl (hb hby d3_0) rfl rfl k) ?_
  obtain ⟨T1, X1, e1, st1⟩ := initO X0 hx hZ hown (hw _ (List.mem_of_getElem? (i := 16) rfl)) (hw _ (List.mem_of_getElem? (i := 17) rfl)) (hw _ (List.mem_of_getElem? (i := 18) rfl)) e0 (g := (mkF m 1 #[.val (.ref a), .val (.ref b), .val (.int (0 : Int32)), .val (.int (0 : Int32)), .val .null, .unset] [(.ref a)])) rfl (by rw [hml]; rfl) rfl (hb hby d3_1) (by decide) (W := 0) (by show 2 * 0 + _ ≤ _; exact Nat.le_of_eq rfl) (by decide)
  refine Done.st (B := T1.setTop (mkF m 4 #[.val (.ref a), .val (.ref b), .val (.int (0 : Int32)), .val (.int (0 : Int32)), .val .null, .unset] [])) (fun _ k => st1 _ k) ?_
  refine Done.st (B := T1.setTop (mkF m 5 #[.val (.ref a), .val (.ref b), .val (.int (0 : Int32)), .val (.int (0 : Int32)), .val .null, .unset] [(.int (0 : Int32))])) (fun _ k => XS.iloadN X1.here hx rfl (hb hby d3_4) rfl k) ?_
  refine Done.st (B := T1.setTop (mkF m 8 #[.val (.ref a), .val (.ref b), .val (.int (0 : Int32)), .val (.int (0 : Int32)), .val .null, .unset] [])) (fun _ k => XS.ifNo X1.here hx rfl (hb hby d3_5) rfl ((if0 _ _).trans (teq (rfl : (0 : Int32) = (0 : Int32))).2) k) ?_
  refine Done.st (B := T1.setTop (mkF m 9 #[.val (.ref a), .val (.ref b), .val (.int (0 : Int32)), .val (.int (0 : Int32)), .val .null, .unset] [(.ref a)])) (fun _ k => XS.aloadN X1.here hx rfl (hb hby d3_8) rfl rfl k) ?_
  have sa_a_2 := (own_blank (EL := own_EL) hZ.alike Ea Fv)
  obtain ⟨lit2, T2, h2, k12, lv2, kl2, X2, e2, E2, hS2, hk2, hZ, hown, f2_0, f2_1, f2_2, f2_3, -, -, cr2, L2, sn2, st2⟩ := ldcCH X1 hx hZ hown (hw _ (List.mem_of_getElem? (i := 19) rfl)) (own_wS hw) e1 hS0 hk0 hEL (by decide) hC0 (vs := []) (z := 0) ⟨by decide, rfl⟩ (by decide) rfl (g := (mkF m 9 #[.val (.ref a), .val (.ref b), .val (.int (0 : Int32)), .val (.int (0 : Int32)), .val .null, .unset] [(.ref a)])) rfl (hb hby d3_9) (n := 0) (by decide) (by decide) (by decide) (by decide)
  have R2 := R0.trans cr2
  have C2 := cr2.1
  have sb_a_2 := sn2 a (cr2.safe Ea.lt sa_a_2)
  have Z2 : n0 ≤ h2.size := Nat.le_trans Z0 E2.1
  have KK2 : Keep h0 h2 [a] := ((Keep.refl h0 [a])).ext E2
  refine Done.st (B := T2.setTop (mkF m 11 #[.val (.ref a), .val (.ref b), .val (.int (0 : Int32)), .val (.int (0 : Int32)), .val .null, .unset] [(.ref lit2), (.ref a)])) (fun _ k => st2 _ k) ?_
  obtain ⟨T3, X3, e3, st3⟩ := getF X2 hx hZ hown (host := "") (Or.inl (hw _ (List.mem_of_getElem? (i := 25) rfl))) Via.refl e2 f2_2 (g := (mkF m 11 #[.val (.ref a), .val (.ref b), .val (.int (0 : Int32)), .val (.int (0 : Int32)), .val .null, .unset] [(.ref lit2), (.ref a)])) rfl rfl (hb hby d3_11)
  refine Done.st (B := T3.setTop (mkF m 14 #[.val (.ref a), .val (.ref b), .val (.int (0 : Int32)), .val (.int (0 : Int32)), .val .null, .unset] [(.ref lv2), (.ref a)])) (fun _ k => st3 _ k) ?_
  have c4 := (Exa.ext E2 Ea)
  have c5 := (Fld.ext E2 Fv)
  obtain ⟨T6, h6, X6, e6, W6, st6⟩ := putF X3 hx hZ hown (host := "") (Or.inl (hw _ (List.mem_of_getElem? (i := 25) rfl))) Via.refl e3 c5 c4 (Or.inr ⟨(hw _ (List.mem_of_getElem? (i := 21) rfl)), rfl, hnm⟩) (hw _ (List.mem_of_getElem? (i := 6) rfl)) (ty := (.array .byte)) (by decide) rfl rfl (g := (mkF m 14 #[.val (.ref a), .val (.ref b), .val (.int (0 : Int32)), .val (.int (0 : Int32)), .val .null, .unset] [(.ref lv2), (.ref a)])) rfl rfl (hb hby d3_14)
  have F6 := Fld.same W6 c5
  have N6 := Fr.snoc X6 N0 ga
  have Z6 : n0 ≤ h6.size := Nat.le_trans Z2 (Keep.of_wr W6).1
  have C6 := CHv.wr W6 (own_blank (EL := own_EL) hZ.alike c4 c5) C2
  have R6 := R2.trans (CHr.wr W6 (own_blank (EL := own_EL) hZ.alike c4 c5) C2)
  have hk6 := Nat.le_trans hk2 (Keep.of_wr W6).1
  have sf6 := Safe.wr W6 (own_blank (EL := own_EL) hZ.alike c4 c5) C2 (own_blank (EL := own_EL) hZ.alike c4 c5)
  have KK6 : Keep h0 h6 [a] := (KK2).wr W6 (Or.inl (List.mem_of_getElem? (i := 0) rfl))
  refine Done.st (B := T6.setTop (mkF m 17 #[.val (.ref a), .val (.ref b), .val (.int (0 : Int32)), .val (.int (0 : Int32)), .val .null, .unset] [])) (fun _ k => st6 _ k) ?_
  refine Done.st (B := T6.setTop (mkF m 18 #[.val (.ref a), .val (.ref b), .val (.int (0 : Int32)), .val (.int (0 : Int32)), .val .null, .unset] [(.ref a)])) (fun _ k => XS.aloadN X6.here hx rfl (hb hby d3_17) rfl rfl k) ?_
  refine Done.st (B := T6.setTop (mkF m 20 #[.val (.ref a), .val (.ref b), .val (.int (0 : Int32)), .val (.int (0 : Int32)), .val .null, .unset] [(.ref lit2), (.ref a)])) (fun _ k => ldcAgain X6 hx hZ hown (hw _ (List.mem_of_getElem? (i := 19) rfl)) L2 (g := (mkF m 18 #[.val (.ref a), .val (.ref b), .val (.int (0 : Int32)), .val (.int (0 : Int32)), .val .null, .unset] [(.ref a)])) rfl (hb hby d3_18) _ k) ?_
  have c8 := (Fld.other W6 f2_1 (Or.inl (Ne.symm sb_a_2.1)))
  obtain ⟨T7, X7, e7, st7⟩ := getF X6 hx hZ hown (host := "") (Or.inl (hw _ (List.mem_of_getElem? (i := 26) rfl))) Via.refl e6 c8 (g := (mkF m 20 #[.val (.ref a), .val (.ref b), .val (.int (0 : Int32)), .val (.int (0 : Int32)), .val .null, .unset] [(.ref lit2), (.ref a)])) rfl rfl (hb hby d3_20)
  refine Done.st (B := T7.setTop (mkF m 23 #[.val (.ref a), .val (.ref b), .val (.int (0 : Int32)), .val (.int (0 : Int32)), .val .null, .unset] [(.int (0 : Int32)), (.ref a)])) (fun _ k => st7 _ k) ?_
  have c9 := (Exa.wr W6 c4)
  have c10 := (Fld.other W6 (Fld.ext E2 Fc) (Or.inr (slot_ne (Or.inr (hw _ (List.mem_of_getElem? (i := 22) rfl))) (Or.inr (hw _ (List.mem_of_getElem? (i := 21) rfl))) (by decide) (t := .byte) (t' := (.array .byte)) (by decide) (by decide))))
  obtain ⟨T11, h11, X11, e11, W11, st11⟩ := putFN X7 hx hZ hown (hw _ (List.mem_of_getElem? (i := 26) rfl)) Via.refl e7 c10 c9 (Or.inr ⟨(hw _ (List.mem_of_getElem? (i := 22) rfl)), rfl, hnm⟩) (hw _ (List.mem_of_getElem? (i := 6) rfl)) (ty := .byte) (v' := (.int (0 : Int32))) (by decide) rfl rfl (g := (mkF m 23 #[.val (.ref a), .val (.ref b), .val (.int (0 : Int32)), .val (.int (0 : Int32)), .val .null, .unset] [(.int (0 : Int32)), (.ref a)])) rfl rfl (hb hby d3_23)
  have F11 := Fld.same W11 c10
  have N11 := Fr.snoc X11 N6 ga
  have Z11 : n0 ≤ h11.size := Nat.le_trans Z6 (Keep.of_wr W11).1
  have C11 := CHv.wr W11 sf6 C6
  have R11 := R6.trans (CHr.wr W11 sf6 C6)
  have hk11 := Nat.le_trans hk6 (Keep.of_wr W11).1
  have sf11 := Safe.wr W11 sf6 C6 sf6
  have KK11 : Keep h0 h11 [a] := (KK6).wr W11 (Or.inl (List.mem_of_getElem? (i := 0) rfl))
  refine Done.st (B := T11.setTop (mkF m 26 #[.val (.ref a), .val (.ref b), .val (.int (0 : Int32)), .val (.int (0 : Int32)), .val .null, .unset] [])) (fun _ k => st11 _ k) ?_
  obtain ⟨fs, hr, hrun, hended, hWW⟩ := X11.leaveW hS2 (by rw [e11]; exact hk11) (v := none) (hlocks := hlk) (fun _ => rfl)
  have c13 := (Exa.wr W11 c9)
  have c14 := (Fld.other W11 F6 (Or.inr (slot_ne (Or.inr (hw _ (List.mem_of_getElem? (i := 21) rfl))) (Or.inr (hw _ (List.mem_of_getElem? (i := 22) rfl))) (by decide) (t := (.array .byte)) (t' := .byte) (by decide) (by decide))))
  have c15 := ((f2_3.other W6 (Ne.symm sb_a_2.2)).other W11 (Ne.symm sb_a_2.2))
  refine Done.fin (X11.returnOut hx Bd.returns (hb hby d3_26) hr) hrun hended ⟨_, _, rfl, ?_, ?_, hWW.1, hWW.2.1, hWW.2.2.1, hWW.2.2.2.mono (by decide) (by decide)⟩
  rotate_left
  · show CHr Z own_EL s.vm s.heap T11.vm T11.heap
    rw [hh, e11]
    exact R11.trans (CHv.at X11 hZ hEL C11)
  show QrmS5 Z a b h0 n0 _ T11.heap _
  rw [e11]
  exact ⟨rfl, N11, KK11, ⟨lv2, _, c13, F11, c14, c15⟩⟩
theorem ef_rmS1 (m : MethodId) (a : Addr) (b : Addr) : entryFrame m #[(.ref a), (.ref b)] 2 = mkF m 0 #[.val (.ref a), .val (.ref b)] [] := by first | (simp [entryFrame, mkF, argsToLocals, Value.category]; done) | rfl
def QrmS1 (Z : State) (a : Addr) (b : Addr) (kc : ClassId) (h0 : Heap) (n0 : Nat) (v : Option Value) (h : Heap) (L : List Loc) : Prop := v = none ∧ Fr n0 L ∧ Keep h0 h [a] ∧ Str Z h a []
def PrmS1 (s : State) (Z : State) (a : Addr) (b : Addr) (kc : ClassId) (h0 : Heap) (n0 : Nat) : State → Outcome → Prop := fun U' o => ∃ v L, o = .returned v ∧ QrmS1 Z a b kc h0 n0 v U'.heap L ∧ CHr Z own_EL s.vm s.heap U'.vm U'.heap ∧ ReturnedEndW s o U' L ({ frames := 2, cells := 2, slots := 4, locals := 29 } : Room).cells ({ frames := 2, cells := 2, slots := 4, locals := 29 } : Room).slots
set_option maxRecDepth 65536 in
set_option maxHeartbeats 40000000 in
theorem rmS1 (l : Launch) (Z : State) (a0 : Array Value) (hw : ∀ d ∈ tables_1, d.before a0 Z = true) (ws : List Jvm.Cond) (a : Addr) (b : Addr) (kc : ClassId) (h0 : Heap) (n0 : Nat) (Z0 : n0 ≤ h0.size) (Fv : Fld Z h0 a "java/lang/String" "value" "[B" .null) (Fc : Fld Z h0 a "java/lang/String" "coder" "B" (.int (0 : Int32))) (Ea : Exa Z h0 a "java/lang/String") (ga : n0 ≤ a) (Vb : Arv Z h0 b kc .char (0 : Int32) [] (.int (0 : Int32))) :
    MetFree l (⟨"java/lang/String", "<init>", "([C)V"⟩ : MethodName) (head1 (Jvm.Cond.code (⟨"java/lang/String", "<init>", "([C)V"⟩ : MethodName) jdk_42_method_3_code 2 none :: ws) ({ frames := 2, cells := 2, slots := 4, locals := 29 } : Room)) (fun aa U => aa = #[(.ref a), (.ref b)] ∧ Z.Warmed39 U.vm ∧ U.heap = h0 ∧ CHv Z own_EL U.vm h0) (fun _ _ _ _ _ => True) (fun _ U o U' => ∃ v L, o = .returned v ∧ QrmS1 Z a b kc h0 n0 v U'.heap L ∧ CHr Z own_EL U.vm U.heap U'.vm U'.heap ∧ ReturnedEndW U o U' L ({ frames := 2, cells := 2, slots := 4, locals := 29 } : Room).cells ({ frames := 2, cells := 2, slots := 4, locals := 29 } : Room).slots) := by
  refine MetFree.of_bodySF (plainFor_of_name pn_0) hisR ?_
  intro p e s m args below meth c s₁ Bd hml0 hP hK
  obtain ⟨rfl, hZ, hh, hC0⟩ := hP
  have hx := Bd.exec
  have hlk : meth.locks = false := by first | exact BodyLoose.notSynchronized Bd | exact Body.notSynchronized Bd
  have hby := Bd.bytes
  have hml : c.maxLocals = 2 := hml0
  have hown : s.vm.findClass "java/lang/String" = some m.cls := findClass_of_methodNamed Bd.named
  have hnm := (name_of_methodNamed Bd.named Bd.method).1
  have X0 : Stand p l e ({ frames := 2, cells := 2, slots := 4, locals := 29 } : Room) (s.setVm s.vm) m #[(.ref a), (.ref b)] below meth c s₁ [] 0 0 := Stand.of_body Bd
  have e0 : s₁.heap = h0 := by rw [← hh, Bd.state]; rfl
  have N0 := Fr.nil n0
  have hEL : EW Z a0 own_EL := EW.cons (hw _ (List.mem_of_getElem? (i := 19) rfl)) (by decide) EW.nil
  have hS0 : s.Since s.vm 0 := (State.WarmedH.refl s).since 0
  have hk0 : 0 ≤ h0.size := Nat.zero_le _
  have R0 : CHr Z own_EL s.vm h0 s.vm h0 := CHr.refl hC0
  show Done p e below (PrmS1 s Z a b kc h0 n0) (s₁.setTop (entryFrame m #[(.ref a), (.ref b)] 2))
  refine Done.st (B := s₁.setTop (mkF m 0 #[.val (.ref a), .val (.ref b)] [])) (fun _ k => castTop (ef_rmS1 m a b) k) ?_
  refine Done.st (B := s₁.setTop (mkF m 1 #[.val (.ref a), .val (.ref b)] [(.ref a)])) (fun _ k => XS.aloadN X0.here hx rfl (hb hby d2_0) rfl rfl k) ?_
  refine Done.st (B := s₁.setTop (mkF m 2 #[.val (.ref a), .val (.ref b)] [(.ref b), (.ref a)])) (fun _ k => XS.aloadN X0.here hx rfl (hb hby d2_1) rfl rfl k) ?_
  refine Done.st (B := s₁.setTop (mkF m 3 #[.val (.ref a), .val (.ref b)] [(.int (0 : Int32)), (.ref b), (.ref a)])) (fun _ k => XS.iconst X0.here hx rfl (hb hby d2_2) k) ?_
  refine Done.st (B := s₁.setTop (mkF m 4 #[.val (.ref a), .val (.ref b)] [(.ref b), (.int (0 : Int32)), (.ref b), (.ref a)])) (fun _ k => XS.aloadN X0.here hx rfl (hb hby d2_3) rfl rfl k) ?_
  obtain ⟨cl1, Ar1, q1, S1, M1, -⟩ := id Vb
  refine Done.st (B := s₁.setTop (mkF m 5 #[.val (.ref a), .val (.ref b)] [(.int (0 : Int32)), (.int (0 : Int32)), (.ref b), (.ref a)])) (fun _ k => X0.arraylength hx (by rw [e0]; exact Ar1.1) (State.isArrayOf_alike hZ.alike Ar1.2.1) (g := (mkF m 4 #[.val (.ref a), .val (.ref b)] [(.ref b), (.int (0 : Int32)), (.ref b), (.ref a)])) rfl rfl (hb hby d2_4) _ (by rw [len_of S1 M1]; exact k)) ?_
  refine Done.st (B := s₁.setTop (mkF m 6 #[.val (.ref a), .val (.ref b)] [.null, (.int (0 : Int32)), (.int (0 : Int32)), (.ref b), (.ref a)])) (fun _ k => XS.aconstNull X0.here hx rfl (hb hby d2_5) k) ?_
  obtain ⟨_, _, ⟨T2, L2, k2, n2⟩, -, X2, hs2, hg2, ⟨Lc2, hQ2, l2, y2, z2, cr2⟩, st2⟩ := X0.specialBackS hx (y := (⟨"java/lang/String", "<init>", "([CIILjava/lang/Void;)V"⟩ : MethodName)) rfl hown (mvT hZ (hw _ (List.mem_of_getElem? (i := 12) rfl))) (mvT hZ (hw _ (List.mem_of_getElem? (i := 13) rfl))) (mvT hZ (hw _ (List.mem_of_getElem? (i := 15) rfl))) (by decide) (backOfSH (W := 0) (rmS5 l Z a0 hw [] a b h0 n0 Z0 Fv Fc Ea ga) hZ (hw _ (List.mem_of_getElem? (i := 15) rfl)) (hw _ (List.mem_of_getElem? (i := 7) rfl)) (by decide) (by decide) hEL hC0) (g := (mkF m 6 #[.val (.ref a), .val (.ref b)] [.null, (.int (0 : Int32)), (.int (0 : Int32)), (.ref b), (.ref a)])) rfl (by rw [hml]; rfl) (Steps.refl _) (a := a) (argsL := [(.ref b), (.int (0 : Int32)), (.int (0 : Int32)), .null]) (rest := []) (lenOf pd_0 rfl) rfl (by show 2 * 0 + _ ≤ _; exact Nat.le_of_eq rfl) (hb hby d2_6) (fun _ _ => ⟨rfl, e0, (by decide : 0 + 2 ≤ _), (by decide : 0 + 4 ≤ _)⟩)
  dsimp only [Pt.U, Pt.locs, Pt.cells, Pt.slots] at X2 l2 y2 z2 st2 hQ2 hs2 hg2 cr2
  subst l2 y2 z2
  obtain ⟨X2, hS2, hZ, hown⟩ := rebS hS0 (by rw [e0]; exact hk0) X2 hs2 hg2 hZ hown
  have R2 := R0.trans cr2
  have C2 := cr2.1
  have hk2 := Nat.le_refl T2.heap.size
  obtain ⟨rfl, N2q, K2, f2_0⟩ := hQ2
  have N2 := Fr.app N0 N2q
  have Z2 : n0 ≤ T2.heap.size := Nat.le_trans Z0 K2.1
  have KK2 : Keep h0 T2.heap [a] := ((Keep.refl h0 [a])).trans K2 (allS (Or.inl (List.mem_of_getElem? (i := 0) rfl)) all0)
  refine Done.st (B := T2.setTop (mkF m 9 #[.val (.ref a), .val (.ref b)] [])) (fun _ k => st2.trans k) ?_
  obtain ⟨fs, hr, hrun, hended, hWW⟩ := X2.leaveW hS2 hk2 (v := none) (hlocks := hlk) (fun _ => rfl)
  refine Done.fin (X2.returnOut hx Bd.returns (hb hby d2_9) hr) hrun hended ⟨_, _, rfl, ?_, ?_, hWW.1, hWW.2.1, hWW.2.2.1, hWW.2.2.2.mono (by decide) (by decide)⟩
  rotate_left
  · show CHr Z own_EL s.vm s.heap T2.vm T2.heap
    rw [hh]
    exact R2.trans (CHv.at X2 hZ hEL C2)
  show QrmS1 Z a b kc h0 n0 _ T2.heap _
  exact ⟨rfl, N2, KK2, f2_0⟩
theorem ef_rmB (m : MethodId) (nn : Int32) (cx : Int32) (cy : Int32) (cz : Int32) : entryFrame m #[(.int nn), (.int cx), (.int cy), (.int cz)] 4 = mkF m 0 #[.val (.int nn), .val (.int cx), .val (.int cy), .val (.int cz)] [] := by first | (simp [entryFrame, mkF, argsToLocals, Value.category]; done) | rfl
def QrmB (Z : State) (nn : Int32) (cx : Int32) (cy : Int32) (cz : Int32) (z : Int32) (h0 : Heap) (n0 : Nat) (v : Option Value) (h : Heap) (L : List Loc) : Prop := ∃ b : Addr, v = some (.ref b) ∧ Fr n0 L ∧ h0.size ≤ b ∧ Keep h0 h [] ∧ Str Z h b (own_cs nn cx cy cz)
def PrmB (s : State) (Z : State) (nn : Int32) (cx : Int32) (cy : Int32) (cz : Int32) (z : Int32) (h0 : Heap) (n0 : Nat) : State → Outcome → Prop := fun U' o => ∃ v L, o = .returned v ∧ QrmB Z nn cx cy cz z h0 n0 v U'.heap L ∧ CHr Z own_EL s.vm s.heap U'.vm U'.heap ∧ ReturnedEndW s o U' L ({ frames := 4, cells := 4, slots := 10, locals := 66 } : Room).cells ({ frames := 4, cells := 4, slots := 10, locals := 66 } : Room).slots
set_option maxRecDepth 65536 in
set_option maxHeartbeats 40000000 in
theorem rmB (l : Launch) (Z : State) (a0 : Array Value) (hw : ∀ d ∈ tables_1, d.before a0 Z = true) (ws : List Jvm.Cond) (nn : Int32) (cx : Int32) (cy : Int32) (cz : Int32) (z : Int32) (h0 : Heap) (n0 : Nat) (Z0 : n0 ≤ h0.size) (S_z : Sta Z h0 "java/lang/String" "COMPACT_STRINGS" "Z" (.int z)) (hz : ¬ z = 0) (hcx : own_ok cx) (hcy : own_ok cy) (hz3 : own_ok cz) :
    MetFree l (⟨"com/example/libbuchi/libbuchi/automaton/TokenIsPinLaw", "build", "(ICCC)Ljava/lang/String;"⟩ : MethodName) (head1 (Jvm.Cond.code (⟨"com/example/libbuchi/libbuchi/automaton/TokenIsPinLaw", "build", "(ICCC)Ljava/lang/String;"⟩ : MethodName) method_3_code 4 (some (.object "java/lang/String")) :: ws) ({ frames := 4, cells := 4, slots := 10, locals := 66 } : Room)) (fun aa U => aa = #[(.int nn), (.int cx), (.int cy), (.int cz)] ∧ Z.Warmed39 U.vm ∧ U.heap = h0 ∧ CHv Z own_EL U.vm h0) (fun _ _ _ _ _ => True) (fun _ U o U' => ∃ v L, o = .returned v ∧ QrmB Z nn cx cy cz z h0 n0 v U'.heap L ∧ CHr Z own_EL U.vm U.heap U'.vm U'.heap ∧ ReturnedEndW U o U' L ({ frames := 4, cells := 4, slots := 10, locals := 66 } : Room).cells ({ frames := 4, cells := 4, slots := 10, locals := 66 } : Room).slots) := by
  refine MetFree.of_bodySF (plainFor_of_name pn_1) hisR ?_
  intro p e s m args below meth c s₁ Bd hml0 hP hK
  obtain ⟨rfl, hZ, hh, hC0⟩ := hP
  have hx := Bd.exec
  have hlk : meth.locks = false := by first | exact BodyLoose.notSynchronized Bd | exact Body.notSynchronized Bd
  have hby := Bd.bytes
  have hml : c.maxLocals = 4 := hml0
  have hown : s.vm.findClass "com/example/libbuchi/libbuchi/automaton/TokenIsPinLaw" = some m.cls := findClass_of_methodNamed Bd.named
  have hnm := (name_of_methodNamed Bd.named Bd.method).1
  have X0 : Stand p l e ({ frames := 4, cells := 4, slots := 10, locals := 66 } : Room) (s.setVm s.vm) m #[(.int nn), (.int cx), (.int cy), (.int cz)] below meth c s₁ [] 0 0 := Stand.of_body Bd
  have e0 : s₁.heap = h0 := by rw [← hh, Bd.state]; rfl
  have N0 := Fr.nil n0
  have hEL : EW Z a0 own_EL := EW.cons (hw _ (List.mem_of_getElem? (i := 19) rfl)) (by decide) EW.nil
  have hS0 : s.Since s.vm 0 := (State.WarmedH.refl s).since 0
  have hk0 : 0 ≤ h0.size := Nat.zero_le _
  have R0 : CHr Z own_EL s.vm h0 s.vm h0 := CHr.refl hC0
  show Done p e below (PrmB s Z nn cx cy cz z h0 n0) (s₁.setTop (entryFrame m #[(.int nn), (.int cx), (.int cy), (.int cz)] 4))
  refine Done.st (B := s₁.setTop (mkF m 0 #[.val (.int nn), .val (.int cx), .val (.int cy), .val (.int cz)] [])) (fun _ k => castTop (ef_rmB m nn cx cy cz) k) ?_
  refine Done.st (B := s₁.setTop (mkF m 1 #[.val (.int nn), .val (.int cx), .val (.int cy), .val (.int cz)] [(.int nn)])) (fun _ k => XS.iloadN X0.here hx rfl (hb hby d1_0) rfl k) ?_
  by_cases hc1 : nn = (0 : Int32)
  · refine Done.st (B := s₁.setTop (mkF m 4 #[.val (.int nn), .val (.int cx), .val (.int cy), .val (.int cz)] [])) (fun _ k => XS.ifNo X0.here hx rfl (hb hby d1_1) rfl ((if0 _ _).trans (teq hc1).2) k) ?_
    obtain ⟨T1, h1, X1, e1, E1, A1, D1, -, st1⟩ := newO X0 hx hZ hown (hw _ (List.mem_of_getElem? (i := 5) rfl)) (hw _ (List.mem_of_getElem? (i := 6) rfl)) (hw _ (List.mem_of_getElem? (i := 7) rfl)) e0 (g := (mkF m 4 #[.val (.int nn), .val (.int cx), .val (.int cy), .val (.int cz)] [])) rfl (hb hby d1_4) (by decide) (by decide)
    obtain ⟨b1, g1⟩ : ∃ z, z = h0.size := ⟨_, rfl⟩
    rw [← g1] at A1 D1 st1
    have ge_b1 : n0 ≤ b1 := Nat.le_trans Z0 (Nat.le_of_eq g1.symm)
    have sz_b1 : h0.size ≤ b1 := Nat.le_trans ((Keep.refl h0 [])).1 (Nat.le_of_eq g1.symm)
    have Z1 : n0 ≤ h1.size := Nat.le_trans Z0 E1.1
    have F1_value : Fld Z h1 b1 "java/lang/String" "value" "[B" .null := D1 (Or.inr (hw _ (List.mem_of_getElem? (i := 21) rfl))) (ty := (.array .byte)) (by decide)
    have F1_coder : Fld Z h1 b1 "java/lang/String" "coder" "B" (.int (0 : Int32)) := D1 (Or.inr (hw _ (List.mem_of_getElem? (i := 22) rfl))) (ty := .byte) (by decide)
    have C1 := CHv.ext E1 hC0
    have R1 := R0.trans (CHr.ext E1 hC0)
    have hk1 := Nat.le_trans hk0 E1.1
    have KK1 : Keep h0 h1 [] := ((Keep.refl h0 [])).ext E1
    refine Done.st (B := T1.setTop (mkF m 7 #[.val (.int nn), .val (.int cx), .val (.int cy), .val (.int cz)] [(.ref b1)])) (fun _ k => st1 _ k) ?_
    refine Done.st (B := T1.setTop (mkF m 8 #[.val (.int nn), .val (.int cx), .val (.int cy), .val (.int cz)] [(.ref b1), (.ref b1)])) (fun _ k => XS.dup X1.here hx rfl (hb hby d1_7) rfl rfl k) ?_
    refine Done.st (B := T1.setTop (mkF m 9 #[.val (.int nn), .val (.int cx), .val (.int cy), .val (.int cz)] [(.int (0 : Int32)), (.ref b1), (.ref b1)])) (fun _ k => XS.iconst X1.here hx rfl (hb hby d1_8) k) ?_
    obtain ⟨T2, h2, k2, X2, e2, E2, A2, st2⟩ := newP X1 hx hZ (hw _ (List.mem_of_getElem? (i := 8) rfl)) e1 (g := (mkF m 9 #[.val (.int nn), .val (.int cx), .val (.int cy), .val (.int cz)] [(.int (0 : Int32)), (.ref b1), (.ref b1)])) rfl (hb hby d1_9) rfl (by decide) (cap := 0) (by decide) (by decide) (by decide) (by decide)
    obtain ⟨b2, g2⟩ : ∃ z, z = h1.size := ⟨_, rfl⟩
    rw [← g2] at A2 st2
    have ne_b1_b2 : b1 ≠ b2 := Nat.ne_of_lt (Nat.lt_of_lt_of_le A1.lt (Nat.le_of_eq g2.symm))
    have ge_b2 : n0 ≤ b2 := Nat.le_trans Z1 (Nat.le_of_eq g2.symm)
    have sz_b2 : h0.size ≤ b2 := Nat.le_trans (KK1).1 (Nat.le_of_eq g2.symm)
    have Z2 : n0 ≤ h2.size := Nat.le_trans Z1 E2.1
    have V2 : Arv Z h2 b2 k2 .char (0 : Int32) [] (.int (0 : Int32)) := (Arv.new A2 (by decide))
    have C2 := CHv.ext E2 C1
    have R2 := R1.trans (CHr.ext E2 C1)
    have hk2 := Nat.le_trans hk1 E2.1
    have KK2 : Keep h0 h2 [] := (KK1).ext E2
    refine Done.st (B := T2.setTop (mkF m 11 #[.val (.int nn), .val (.int cx), .val (.int cy), .val (.int cz)] [(.ref b2), (.ref b1), (.ref b1)])) (fun _ k => st2 _ k) ?_
    have c3 := (Fld.ext E2 F1_value)
    have c4 := (Fld.ext E2 F1_coder)
    have c5 := (Exa.ext E2 A1)
    obtain ⟨_, _, ⟨T6, L6, k6, n6⟩, -, X6, hs6, hg6, ⟨Lc6, hQ6, l6, y6, z6, cr6⟩, st6⟩ := X2.specialBackS hx (y := (⟨"java/lang/String", "<init>", "([C)V"⟩ : MethodName)) rfl hown (mvT hZ (hw _ (List.mem_of_getElem? (i := 9) rfl))) (mvT hZ (hw _ (List.mem_of_getElem? (i := 10) rfl))) (mvT hZ (hw _ (List.mem_of_getElem? (i := 11) rfl))) (by decide) (backOfSH (W := 1) (rmS1 l Z a0 hw [] b1 b2 k2 h2 n0 Z2 c3 c4 c5 ge_b1 V2) hZ (hw _ (List.mem_of_getElem? (i := 11) rfl)) (hw _ (List.mem_of_getElem? (i := 7) rfl)) (by decide) (by decide) hEL C2) (g := (mkF m 11 #[.val (.int nn), .val (.int cx), .val (.int cy), .val (.int cz)] [(.ref b2), (.ref b1), (.ref b1)])) rfl (by rw [hml]; rfl) (Steps.refl _) (a := b1) (argsL := [(.ref b2)]) (rest := [(.ref b1)]) (lenOf pd_1 rfl) rfl (by show 2 * 0 + _ ≤ _; exact Nat.le_of_eq rfl) (hb hby d1_11) (fun _ _ => ⟨rfl, e2, (by decide : 2 + 2 ≤ _), (by decide : 4 + 4 ≤ _)⟩)
    dsimp only [Pt.U, Pt.locs, Pt.cells, Pt.slots] at X6 l6 y6 z6 st6 hQ6 hs6 hg6 cr6
    subst l6 y6 z6
    obtain ⟨X6, hS6, hZ, hown⟩ := rebS hS0 (by rw [e2]; exact hk2) X6 hs6 hg6 hZ hown
    have R6 := R2.trans cr6
    have C6 := cr6.1
    have hk6 := Nat.le_refl T6.heap.size
    obtain ⟨rfl, N6q, K6, f6_0⟩ := hQ6
    have N6 := Fr.app N0 N6q
    have Z6 : n0 ≤ T6.heap.size := Nat.le_trans Z2 K6.1
    have KK6 : Keep h0 T6.heap [] := (KK2).trans K6 (allS (Or.inr sz_b1) all0)
    refine Done.st (B := T6.setTop (mkF m 14 #[.val (.int nn), .val (.int cx), .val (.int cy), .val (.int cz)] [(.ref b1)])) (fun _ k => st6.trans k) ?_
    obtain ⟨fs, hr, hrun, hended, hWW⟩ := X6.leaveW hS6 hk6 (v := some (.ref b1)) (hlocks := hlk) (fun h => by rw [Bd.returns] at h; cases h)
    refine Done.fin (retR X6 hx Bd.returns rfl rfl (hb hby d1_14) hr) hrun hended ⟨_, _, rfl, ?_, ?_, hWW.1, hWW.2.1, hWW.2.2.1, hWW.2.2.2.mono (by decide) (by decide)⟩
    rotate_left
    · show CHr Z own_EL s.vm s.heap T6.vm T6.heap
      rw [hh]
      exact R6.trans (CHv.at X6 hZ hEL C6)
    show QrmB Z nn cx cy cz z h0 n0 _ T6.heap _
    exact ⟨b1, rfl, N6, sz_b1, KK6, by simpa [own_cs, hc1] using f6_0⟩
  · refine Done.st (B := s₁.setTop (mkF m 15 #[.val (.int nn), .val (.int cx), .val (.int cy), .val (.int cz)] [])) (fun _ k => XS.ifYes X0.here hx rfl (pc0 := 1) (pc' := 15) rfl (hb hby d1_1) rfl ((if0 _ _).trans (feq hc1).2) (by decide) (by decide) k) ?_
    refine Done.st (B := s₁.setTop (mkF m 16 #[.val (.int nn), .val (.int cx), .val (.int cy), .val (.int cz)] [(.int nn)])) (fun _ k => XS.iloadN X0.here hx rfl (hb hby d1_15) rfl k) ?_
    refine Done.st (B := s₁.setTop (mkF m 17 #[.val (.int nn), .val (.int cx), .val (.int cy), .val (.int cz)] [(.int (1 : Int32)), (.int nn)])) (fun _ k => XS.iconst X0.here hx rfl (hb hby d1_16) k) ?_
    by_cases hc17 : nn = (1 : Int32)
    · refine Done.st (B := s₁.setTop (mkF m 20 #[.val (.int nn), .val (.int cx), .val (.int cy), .val (.int cz)] [])) (fun _ k => XS.icmpNo X0.here hx rfl (hb hby d1_17) rfl (teq hc17).2 k) ?_
      obtain ⟨T8, h8, X8, e8, E8, A8, D8, -, st8⟩ := newO X0 hx hZ hown (hw _ (List.mem_of_getElem? (i := 5) rfl)) (hw _ (List.mem_of_getElem? (i := 6) rfl)) (hw _ (List.mem_of_getElem? (i := 7) rfl)) e0 (g := (mkF m 20 #[.val (.int nn), .val (.int cx), .val (.int cy), .val (.int cz)] [])) rfl (hb hby d1_20) (by decide) (by decide)
      obtain ⟨b8, g8⟩ : ∃ z, z = h0.size := ⟨_, rfl⟩
      rw [← g8] at A8 D8 st8
      have ge_b8 : n0 ≤ b8 := Nat.le_trans Z0 (Nat.le_of_eq g8.symm)
      have sz_b8 : h0.size ≤ b8 := Nat.le_trans ((Keep.refl h0 [])).1 (Nat.le_of_eq g8.symm)
      have Z8 : n0 ≤ h8.size := Nat.le_trans Z0 E8.1
      have F8_value : Fld Z h8 b8 "java/lang/String" "value" "[B" .null := D8 (Or.inr (hw _ (List.mem_of_getElem? (i := 21) rfl))) (ty := (.array .byte)) (by decide)
      have F8_coder : Fld Z h8 b8 "java/lang/String" "coder" "B" (.int (0 : Int32)) := D8 (Or.inr (hw _ (List.mem_of_getElem? (i := 22) rfl))) (ty := .byte) (by decide)
      have C8 := CHv.ext E8 hC0
      have R8 := R0.trans (CHr.ext E8 hC0)
      have hk8 := Nat.le_trans hk0 E8.1
      have KK8 : Keep h0 h8 [] := ((Keep.refl h0 [])).ext E8
      refine Done.st (B := T8.setTop (mkF m 23 #[.val (.int nn), .val (.int cx), .val (.int cy), .val (.int cz)] [(.ref b8)])) (fun _ k => st8 _ k) ?_
      refine Done.st (B := T8.setTop (mkF m 24 #[.val (.int nn), .val (.int cx), .val (.int cy), .val (.int cz)] [(.ref b8), (.ref b8)])) (fun _ k => XS.dup X8.here hx rfl (hb hby d1_23) rfl rfl k) ?_
      refine Done.st (B := T8.setTop (mkF m 25 #[.val (.int nn), .val (.int cx), .val (.int cy), .val (.int cz)] [(.int (1 : Int32)), (.ref b8), (.ref b8)])) (fun _ k => XS.iconst X8.here hx rfl (hb hby d1_24) k) ?_
      obtain ⟨T9, h9, k9, X9, e9, E9, A9, st9⟩ := newP X8 hx hZ (hw _ (List.mem_of_getElem? (i := 8) rfl)) e8 (g := (mkF m 25 #[.val (.int nn), .val (.int cx), .val (.int cy), .val (.int cz)] [(.int (1 : Int32)), (.ref b8), (.ref b8)])) rfl (hb hby d1_25) rfl (by decide) (cap := 1) (by decide) (by decide) (by decide) (by decide)
      obtain ⟨b9, g9⟩ : ∃ z, z = h8.size := ⟨_, rfl⟩
      rw [← g9] at A9 st9
      have ne_b8_b9 : b8 ≠ b9 := Nat.ne_of_lt (Nat.lt_of_lt_of_le A8.lt (Nat.le_of_eq g9.symm))
      have ge_b9 : n0 ≤ b9 := Nat.le_trans Z8 (Nat.le_of_eq g9.symm)
      have sz_b9 : h0.size ≤ b9 := Nat.le_trans (KK8).1 (Nat.le_of_eq g9.symm)
      have Z9 : n0 ≤ h9.size := Nat.le_trans Z8 E9.1
      have V9 : Arv Z h9 b9 k9 .char (1 : Int32) [(.int (0 : Int32))] (.int (0 : Int32)) := (Arv.new A9 (by decide)).pad (pad_rep [] (.int (0 : Int32)) 1)
      have C9 := CHv.ext E9 C8
      have R9 := R8.trans (CHr.ext E9 C8)
      have hk9 := Nat.le_trans hk8 E9.1
      have KK9 : Keep h0 h9 [] := (KK8).ext E9
      refine Done.st (B := T9.setTop (mkF m 27 #[.val (.int nn), .val (.int cx), .val (.int cy), .val (.int cz)] [(.ref b9), (.ref b8), (.ref b8)])) (fun _ k => st9 _ k) ?_
      refine Done.st (B := T9.setTop (mkF m 28 #[.val (.int nn), .val (.int cx), .val (.int cy), .val (.int cz)] [(.ref b9), (.ref b9), (.ref b8), (.ref b8)])) (fun _ k => XS.dup X9.here hx rfl (hb hby d1_27) rfl rfl k) ?_
      refine Done.st (B := T9.setTop (mkF m 29 #[.val (.int nn), .val (.int cx), .val (.int cy), .val (.int cz)] [(.int (0 : Int32)), (.ref b9), (.ref b9), (.ref b8), (.ref b8)])) (fun _ k => XS.iconst X9.here hx rfl (hb hby d1_28) k) ?_
      refine Done.st (B := T9.setTop (mkF m 30 #[.val (.int nn), .val (.int cx), .val (.int cy), .val (.int cz)] [(.int cx), (.int (0 : Int32)), (.ref b9), (.ref b9), (.ref b8), (.ref b8)])) (fun _ k => XS.iloadN X9.here hx rfl (hb hby d1_29) rfl k) ?_
      obtain ⟨cl10, Ar10, q10, S10, M10, H10, G10⟩ := id V9
      have hin10 : ¬ ((0 : Int32) < 0 ∨ cl10.slots.size ≤ ((0 : Int32)).toNatClampNeg) := inb_of S10 ⟨by decide, by decide⟩
      obtain ⟨T10, h10, X10, e10, W10, st10⟩ := stC X9 hx hZ e9 Ar10 (j := (0 : Int32)) hin10 (g := (mkF m 30 #[.val (.int nn), .val (.int cx), .val (.int cy), .val (.int cz)] [(.int cx), (.int (0 : Int32)), (.ref b9), (.ref b9), (.ref b8), (.ref b8)])) rfl rfl (hb hby d1_30)
      have V10 : Arv Z h10 b9 k9 .char (1 : Int32) [(.int (nar .char cx))] (.int (0 : Int32)) := Arv.set Ar10 q10 S10 M10 H10 G10 (fits_nar_char _) W10 0 rfl (Nat.le_of_ble_eq_true rfl)
      have N10 := Fr.snoc X10 N0 ge_b9
      have Z10 : n0 ≤ h10.size := Nat.le_trans Z9 (Keep.of_wr W10).1
      have C10 := CHv.wr W10 (Safe.arv (EL := own_EL) hZ.alike V9 (by decide)) C9
      have R10 := R9.trans (CHr.wr W10 (Safe.arv (EL := own_EL) hZ.alike V9 (by decide)) C9)
      have hk10 := Nat.le_trans hk9 (Keep.of_wr W10).1
      have sf10 := Safe.wr W10 (Safe.arv (EL := own_EL) hZ.alike V9 (by decide)) C9 (Safe.arv (EL := own_EL) hZ.alike V9 (by decide))
      have KK10 : Keep h0 h10 [] := (KK9).wr W10 (Or.inr sz_b9)
      refine Done.st (B := T10.setTop (mkF m 31 #[.val (.int nn), .val (.int cx), .val (.int cy), .val (.int cz)] [(.ref b9), (.ref b8), (.ref b8)])) (fun _ k => st10 _ k) ?_
      have Kc11 : Arv Z h10 b9 k9 .char (1 : Int32) (([cx] : List Int32).map Value.int) (.int (0 : Int32)) := by
        have z := V10
        simp only [own_nar hcx] at z
        exact z
      have hp11 : ∀ c ∈ ([cx] : List Int32), ¬ c < 0 ∧ ¬ (255 : Int32) < c := by
        intro c hc
        simp only [List.mem_cons, List.not_mem_nil, or_false] at hc
        rcases hc with rfl
        · exact hcx
      have c12 := (Exa.wr W10 (Exa.ext E9 A8))
      have c13 := (Fld.other W10 (Fld.ext E9 F8_value) (Or.inl ne_b8_b9))
      have c14 := (Fld.other W10 (Fld.ext E9 F8_coder) (Or.inl ne_b8_b9))
      have c15 := (Sta.wr W10 (Sta.ext E9 (Sta.ext E8 S_z)))
      obtain ⟨_, _, ⟨T16, L16, k16, n16⟩, -, X16, ⟨Lc16, hQ16, l16, y16, z16⟩, st16⟩ := X10.specialBack hx (y := (⟨"java/lang/String", "<init>", "([C)V"⟩ : MethodName)) rfl hown (mvT hZ (hw _ (List.mem_of_getElem? (i := 9) rfl))) (mvT hZ (hw _ (List.mem_of_getElem? (i := 10) rfl))) (mvT hZ (hw _ (List.mem_of_getElem? (i := 11) rfl))) (by decide) (StrChars.Road.backV (W := 1) hZ (own_ws hw) (kI := 4) (hw _ (List.mem_of_getElem? (i := 6) rfl)) (cs := ([cx] : List Int32)) (bs := ([cx] : List Int32).map (fun c => c.toInt8.toInt32)) (n := 1) ge_b8 Z10 c12 c13 c14 Kc11 c15 hz rfl rfl (by decide) (by decide) hp11 rfl (by decide) (by decide)) (g := (mkF m 31 #[.val (.int nn), .val (.int cx), .val (.int cy), .val (.int cz)] [(.ref b9), (.ref b8), (.ref b8)])) rfl (by rw [hml]; rfl) (Steps.refl _) (a := b8) (argsL := [(.ref b9)]) (rest := [(.ref b8)]) (lenOf pd_1 rfl) rfl (by show 2 * 0 + _ ≤ _; exact Nat.le_of_eq rfl) (hb hby d1_31) (fun _ _ => ⟨rfl, e10, (by decide : 2 + 1 ≤ _), (by decide : 5 + 1 ≤ _)⟩)
      dsimp only [Pt.U, Pt.locs, Pt.cells, Pt.slots] at X16 l16 y16 z16 st16 hQ16
      subst l16 y16 z16
      obtain ⟨rfl, N16q, K16, qe16, qc16, t16, kb16, -, -, -, qv16, qa16⟩ := hQ16
      have N16 := Fr.app N10 N16q
      have T_16 : Str Z T16.heap b8 [cx] := ⟨t16, kb16, qe16, qc16, qv16, qa16⟩
      have C16 := CHv.keep K16 (sfS (own_blank (EL := own_EL) hZ.alike c12 c13) sf0) C10
      have R16 := R10.trans (CHr.keep K16 (sfS (own_blank (EL := own_EL) hZ.alike c12 c13) sf0) C10)
      have hk16 := Nat.le_trans hk10 K16.1
      have Z16 : n0 ≤ T16.heap.size := Nat.le_trans Z10 K16.1
      have KK16 : Keep h0 T16.heap [] := (KK10).trans K16 (allS (Or.inr sz_b8) all0)
      refine Done.st (B := T16.setTop (mkF m 34 #[.val (.int nn), .val (.int cx), .val (.int cy), .val (.int cz)] [(.ref b8)])) (fun _ k => st16.trans k) ?_
      obtain ⟨fs, hr, hrun, hended, hWW⟩ := X16.leaveW hS0 hk16 (v := some (.ref b8)) (hlocks := hlk) (fun h => by rw [Bd.returns] at h; cases h)
      refine Done.fin (retR X16 hx Bd.returns rfl rfl (hb hby d1_34) hr) hrun hended ⟨_, _, rfl, ?_, ?_, hWW.1, hWW.2.1, hWW.2.2.1, hWW.2.2.2.mono (by decide) (by decide)⟩
      rotate_left
      · show CHr Z own_EL s.vm s.heap T16.vm T16.heap
        rw [hh]
        exact R16.trans (CHv.at X16 hZ hEL C16)
      show QrmB Z nn cx cy cz z h0 n0 _ T16.heap _
      exact ⟨b8, rfl, N16, sz_b8, KK16, by simpa [own_cs, hc1, hc17] using T_16⟩
    · refine Done.st (B := s₁.setTop (mkF m 35 #[.val (.int nn), .val (.int cx), .val (.int cy), .val (.int cz)] [])) (fun _ k => XS.icmpYes X0.here hx rfl (pc0 := 17) (pc' := 35) rfl (hb hby d1_17) rfl (feq hc17).2 (by decide) (by decide) k) ?_
      refine Done.st (B := s₁.setTop (mkF m 36 #[.val (.int nn), .val (.int cx), .val (.int cy), .val (.int cz)] [(.int nn)])) (fun _ k => XS.iloadN X0.here hx rfl (hb hby d1_35) rfl k) ?_
      refine Done.st (B := s₁.setTop (mkF m 37 #[.val (.int nn), .val (.int cx), .val (.int cy), .val (.int cz)] [(.int (2 : Int32)), (.int nn)])) (fun _ k => XS.iconst X0.here hx rfl (hb hby d1_36) k) ?_
      by_cases hc37 : nn = (2 : Int32)
      · refine Done.st (B := s₁.setTop (mkF m 40 #[.val (.int nn), .val (.int cx), .val (.int cy), .val (.int cz)] [])) (fun _ k => XS.icmpNo X0.here hx rfl (hb hby d1_37) rfl (teq hc37).2 k) ?_
        obtain ⟨T18, h18, X18, e18, E18, A18, D18, -, st18⟩ := newO X0 hx hZ hown (hw _ (List.mem_of_getElem? (i := 5) rfl)) (hw _ (List.mem_of_getElem? (i := 6) rfl)) (hw _ (List.mem_of_getElem? (i := 7) rfl)) e0 (g := (mkF m 40 #[.val (.int nn), .val (.int cx), .val (.int cy), .val (.int cz)] [])) rfl (hb hby d1_40) (by decide) (by decide)
        obtain ⟨b18, g18⟩ : ∃ z, z = h0.size := ⟨_, rfl⟩
        rw [← g18] at A18 D18 st18
        have ge_b18 : n0 ≤ b18 := Nat.le_trans Z0 (Nat.le_of_eq g18.symm)
        have sz_b18 : h0.size ≤ b18 := Nat.le_trans ((Keep.refl h0 [])).1 (Nat.le_of_eq g18.symm)
        have Z18 : n0 ≤ h18.size := Nat.le_trans Z0 E18.1
        have F18_value : Fld Z h18 b18 "java/lang/String" "value" "[B" .null := D18 (Or.inr (hw _ (List.mem_of_getElem? (i := 21) rfl))) (ty := (.array .byte)) (by decide)
        have F18_coder : Fld Z h18 b18 "java/lang/String" "coder" "B" (.int (0 : Int32)) := D18 (Or.inr (hw _ (List.mem_of_getElem? (i := 22) rfl))) (ty := .byte) (by decide)
        have C18 := CHv.ext E18 hC0
        have R18 := R0.trans (CHr.ext E18 hC0)
        have hk18 := Nat.le_trans hk0 E18.1
        have KK18 : Keep h0 h18 [] := ((Keep.refl h0 [])).ext E18
        refine Done.st (B := T18.setTop (mkF m 43 #[.val (.int nn), .val (.int cx), .val (.int cy), .val (.int cz)] [(.ref b18)])) (fun _ k => st18 _ k) ?_
        refine Done.st (B := T18.setTop (mkF m 44 #[.val (.int nn), .val (.int cx), .val (.int cy), .val (.int cz)] [(.ref b18), (.ref b18)])) (fun _ k => XS.dup X18.here hx rfl (hb hby d1_43) rfl rfl k) ?_
        refine Done.st (B := T18.setTop (mkF m 45 #[.val (.int nn), .val (.int cx), .val (.int cy), .val (.int cz)] [(.int (2 : Int32)), (.ref b18), (.ref b18)])) (fun _ k => XS.iconst X18.here hx rfl (hb hby d1_44) k) ?_
        obtain ⟨T19, h19, k19, X19, e19, E19, A19, st19⟩ := newP X18 hx hZ (hw _ (List.mem_of_getElem? (i := 8) rfl)) e18 (g := (mkF m 45 #[.val (.int nn), .val (.int cx), .val (.int cy), .val (.int cz)] [(.int (2 : Int32)), (.ref b18), (.ref b18)])) rfl (hb hby d1_45) rfl (by decide) (cap := 2) (by decide) (by decide) (by decide) (by decide)
        obtain ⟨b19, g19⟩ : ∃ z, z = h18.size := ⟨_, rfl⟩
        rw [← g19] at A19 st19
        have ne_b18_b19 : b18 ≠ b19 := Nat.ne_of_lt (Nat.lt_of_lt_of_le A18.lt (Nat.le_of_eq g19.symm))
        have ge_b19 : n0 ≤ b19 := Nat.le_trans Z18 (Nat.le_of_eq g19.symm)
        have sz_b19 : h0.size ≤ b19 := Nat.le_trans (KK18).1 (Nat.le_of_eq g19.symm)
        have Z19 : n0 ≤ h19.size := Nat.le_trans Z18 E19.1
        have V19 : Arv Z h19 b19 k19 .char (2 : Int32) [(.int (0 : Int32)), (.int (0 : Int32))] (.int (0 : Int32)) := (Arv.new A19 (by decide)).pad (pad_rep [] (.int (0 : Int32)) 2)
        have C19 := CHv.ext E19 C18
        have R19 := R18.trans (CHr.ext E19 C18)
        have hk19 := Nat.le_trans hk18 E19.1
        have KK19 : Keep h0 h19 [] := (KK18).ext E19
        refine Done.st (B := T19.setTop (mkF m 47 #[.val (.int nn), .val (.int cx), .val (.int cy), .val (.int cz)] [(.ref b19), (.ref b18), (.ref b18)])) (fun _ k => st19 _ k) ?_
        refine Done.st (B := T19.setTop (mkF m 48 #[.val (.int nn), .val (.int cx), .val (.int cy), .val (.int cz)] [(.ref b19), (.ref b19), (.ref b18), (.ref b18)])) (fun _ k => XS.dup X19.here hx rfl (hb hby d1_47) rfl rfl k) ?_
        refine Done.st (B := T19.setTop (mkF m 49 #[.val (.int nn), .val (.int cx), .val (.int cy), .val (.int cz)] [(.int (0 : Int32)), (.ref b19), (.ref b19), (.ref b18), (.ref b18)])) (fun _ k => XS.iconst X19.here hx rfl (hb hby d1_48) k) ?_
        refine Done.st (B := T19.setTop (mkF m 50 #[.val (.int nn), .val (.int cx), .val (.int cy), .val (.int cz)] [(.int cx), (.int (0 : Int32)), (.ref b19), (.ref b19), (.ref b18), (.ref b18)])) (fun _ k => XS.iloadN X19.here hx rfl (hb hby d1_49) rfl k) ?_
        obtain ⟨cl20, Ar20, q20, S20, M20, H20, G20⟩ := id V19
        have hin20 : ¬ ((0 : Int32) < 0 ∨ cl20.slots.size ≤ ((0 : Int32)).toNatClampNeg) := inb_of S20 ⟨by decide, by decide⟩
        obtain ⟨T20, h20, X20, e20, W20, st20⟩ := stC X19 hx hZ e19 Ar20 (j := (0 : Int32)) hin20 (g := (mkF m 50 #[.val (.int nn), .val (.int cx), .val (.int cy), .val (.int cz)] [(.int cx), (.int (0 : Int32)), (.ref b19), (.ref b19), (.ref b18), (.ref b18)])) rfl rfl (hb hby d1_50)
        have V20 : Arv Z h20 b19 k19 .char (2 : Int32) [(.int (nar .char cx)), (.int (0 : Int32))] (.int (0 : Int32)) := Arv.set Ar20 q20 S20 M20 H20 G20 (fits_nar_char _) W20 0 rfl (Nat.le_of_ble_eq_true rfl)
        have N20 := Fr.snoc X20 N0 ge_b19
        have Z20 : n0 ≤ h20.size := Nat.le_trans Z19 (Keep.of_wr W20).1
        have C20 := CHv.wr W20 (Safe.arv (EL := own_EL) hZ.alike V19 (by decide)) C19
        have R20 := R19.trans (CHr.wr W20 (Safe.arv (EL := own_EL) hZ.alike V19 (by decide)) C19)
        have hk20 := Nat.le_trans hk19 (Keep.of_wr W20).1
        have sf20 := Safe.wr W20 (Safe.arv (EL := own_EL) hZ.alike V19 (by decide)) C19 (Safe.arv (EL := own_EL) hZ.alike V19 (by decide))
        have KK20 : Keep h0 h20 [] := (KK19).wr W20 (Or.inr sz_b19)
        refine Done.st (B := T20.setTop (mkF m 51 #[.val (.int nn), .val (.int cx), .val (.int cy), .val (.int cz)] [(.ref b19), (.ref b18), (.ref b18)])) (fun _ k => st20 _ k) ?_
        refine Done.st (B := T20.setTop (mkF m 52 #[.val (.int nn), .val (.int cx), .val (.int cy), .val (.int cz)] [(.ref b19), (.ref b19), (.ref b18), (.ref b18)])) (fun _ k => XS.dup X20.here hx rfl (hb hby d1_51) rfl rfl k) ?_
        refine Done.st (B := T20.setTop (mkF m 53 #[.val (.int nn), .val (.int cx), .val (.int cy), .val (.int cz)] [(.int (1 : Int32)), (.ref b19), (.ref b19), (.ref b18), (.ref b18)])) (fun _ k => XS.iconst X20.here hx rfl (hb hby d1_52) k) ?_
        refine Done.st (B := T20.setTop (mkF m 54 #[.val (.int nn), .val (.int cx), .val (.int cy), .val (.int cz)] [(.int cy), (.int (1 : Int32)), (.ref b19), (.ref b19), (.ref b18), (.ref b18)])) (fun _ k => XS.iloadN X20.here hx rfl (hb hby d1_53) rfl k) ?_
        obtain ⟨cl21, Ar21, q21, S21, M21, H21, G21⟩ := id V20
        have hin21 : ¬ ((1 : Int32) < 0 ∨ cl21.slots.size ≤ ((1 : Int32)).toNatClampNeg) := inb_of S21 ⟨by decide, by decide⟩
        obtain ⟨T21, h21, X21, e21, W21, st21⟩ := stC X20 hx hZ e20 Ar21 (j := (1 : Int32)) hin21 (g := (mkF m 54 #[.val (.int nn), .val (.int cx), .val (.int cy), .val (.int cz)] [(.int cy), (.int (1 : Int32)), (.ref b19), (.ref b19), (.ref b18), (.ref b18)])) rfl rfl (hb hby d1_54)
        have V21 : Arv Z h21 b19 k19 .char (2 : Int32) [(.int (nar .char cx)), (.int (nar .char cy))] (.int (0 : Int32)) := Arv.set Ar21 q21 S21 M21 H21 G21 (fits_nar_char _) W21 1 rfl (Nat.le_of_ble_eq_true rfl)
        have N21 := Fr.snoc X21 N20 ge_b19
        have Z21 : n0 ≤ h21.size := Nat.le_trans Z20 (Keep.of_wr W21).1
        have C21 := CHv.wr W21 sf20 C20
        have R21 := R20.trans (CHr.wr W21 sf20 C20)
        have hk21 := Nat.le_trans hk20 (Keep.of_wr W21).1
        have sf21 := Safe.wr W21 sf20 C20 sf20
        have KK21 : Keep h0 h21 [] := (KK20).wr W21 (Or.inr sz_b19)
        refine Done.st (B := T21.setTop (mkF m 55 #[.val (.int nn), .val (.int cx), .val (.int cy), .val (.int cz)] [(.ref b19), (.ref b18), (.ref b18)])) (fun _ k => st21 _ k) ?_
        have Kc22 : Arv Z h21 b19 k19 .char (2 : Int32) (([cx, cy] : List Int32).map Value.int) (.int (0 : Int32)) := by
          have z := V21
          simp only [own_nar hcx, own_nar hcy] at z
          exact z
        have hp22 : ∀ c ∈ ([cx, cy] : List Int32), ¬ c < 0 ∧ ¬ (255 : Int32) < c := by
          intro c hc
          simp only [List.mem_cons, List.not_mem_nil, or_false] at hc
          rcases hc with rfl | rfl
          · exact hcx
          · exact hcy
        have c23 := (Exa.wr W21 (Exa.wr W20 (Exa.ext E19 A18)))
        have c24 := (Fld.other W21 (Fld.other W20 (Fld.ext E19 F18_value) (Or.inl ne_b18_b19)) (Or.inl ne_b18_b19))
        have c25 := (Fld.other W21 (Fld.other W20 (Fld.ext E19 F18_coder) (Or.inl ne_b18_b19)) (Or.inl ne_b18_b19))
        have c26 := (Sta.wr W21 (Sta.wr W20 (Sta.ext E19 (Sta.ext E18 S_z))))
        obtain ⟨_, _, ⟨T27, L27, k27, n27⟩, -, X27, ⟨Lc27, hQ27, l27, y27, z27⟩, st27⟩ := X21.specialBack hx (y := (⟨"java/lang/String", "<init>", "([C)V"⟩ : MethodName)) rfl hown (mvT hZ (hw _ (List.mem_of_getElem? (i := 9) rfl))) (mvT hZ (hw _ (List.mem_of_getElem? (i := 10) rfl))) (mvT hZ (hw _ (List.mem_of_getElem? (i := 11) rfl))) (by decide) (StrChars.Road.backV (W := 1) hZ (own_ws hw) (kI := 4) (hw _ (List.mem_of_getElem? (i := 6) rfl)) (cs := ([cx, cy] : List Int32)) (bs := ([cx, cy] : List Int32).map (fun c => c.toInt8.toInt32)) (n := 2) ge_b18 Z21 c23 c24 c25 Kc22 c26 hz rfl rfl (by decide) (by decide) hp22 rfl (by decide) (by decide)) (g := (mkF m 55 #[.val (.int nn), .val (.int cx), .val (.int cy), .val (.int cz)] [(.ref b19), (.ref b18), (.ref b18)])) rfl (by rw [hml]; rfl) (Steps.refl _) (a := b18) (argsL := [(.ref b19)]) (rest := [(.ref b18)]) (lenOf pd_1 rfl) rfl (by show 2 * 0 + _ ≤ _; exact Nat.le_of_eq rfl) (hb hby d1_55) (fun _ _ => ⟨rfl, e21, (by decide : 2 + 1 ≤ _), (by decide : 6 + 2 ≤ _)⟩)
        dsimp only [Pt.U, Pt.locs, Pt.cells, Pt.slots] at X27 l27 y27 z27 st27 hQ27
        subst l27 y27 z27
        obtain ⟨rfl, N27q, K27, qe27, qc27, t27, kb27, -, -, -, qv27, qa27⟩ := hQ27
        have N27 := Fr.app N21 N27q
        have T_27 : Str Z T27.heap b18 [cx, cy] := ⟨t27, kb27, qe27, qc27, qv27, qa27⟩
        have C27 := CHv.keep K27 (sfS (own_blank (EL := own_EL) hZ.alike c23 c24) sf0) C21
        have R27 := R21.trans (CHr.keep K27 (sfS (own_blank (EL := own_EL) hZ.alike c23 c24) sf0) C21)
        have hk27 := Nat.le_trans hk21 K27.1
        have Z27 : n0 ≤ T27.heap.size := Nat.le_trans Z21 K27.1
        have KK27 : Keep h0 T27.heap [] := (KK21).trans K27 (allS (Or.inr sz_b18) all0)
        refine Done.st (B := T27.setTop (mkF m 58 #[.val (.int nn), .val (.int cx), .val (.int cy), .val (.int cz)] [(.ref b18)])) (fun _ k => st27.trans k) ?_
        obtain ⟨fs, hr, hrun, hended, hWW⟩ := X27.leaveW hS0 hk27 (v := some (.ref b18)) (hlocks := hlk) (fun h => by rw [Bd.returns] at h; cases h)
        refine Done.fin (retR X27 hx Bd.returns rfl rfl (hb hby d1_58) hr) hrun hended ⟨_, _, rfl, ?_, ?_, hWW.1, hWW.2.1, hWW.2.2.1, hWW.2.2.2.mono (by decide) (by decide)⟩
        rotate_left
        · show CHr Z own_EL s.vm s.heap T27.vm T27.heap
          rw [hh]
          exact R27.trans (CHv.at X27 hZ hEL C27)
        show QrmB Z nn cx cy cz z h0 n0 _ T27.heap _
        exact ⟨b18, rfl, N27, sz_b18, KK27, by simpa [own_cs, hc1, hc17, hc37] using T_27⟩
      · refine Done.st (B := s₁.setTop (mkF m 59 #[.val (.int nn), .val (.int cx), .val (.int cy), .val (.int cz)] [])) (fun _ k => XS.icmpYes X0.here hx rfl (pc0 := 37) (pc' := 59) rfl (hb hby d1_37) rfl (feq hc37).2 (by decide) (by decide) k) ?_
        obtain ⟨T29, h29, X29, e29, E29, A29, D29, -, st29⟩ := newO X0 hx hZ hown (hw _ (List.mem_of_getElem? (i := 5) rfl)) (hw _ (List.mem_of_getElem? (i := 6) rfl)) (hw _ (List.mem_of_getElem? (i := 7) rfl)) e0 (g := (mkF m 59 #[.val (.int nn), .val (.int cx), .val (.int cy), .val (.int cz)] [])) rfl (hb hby d1_59) (by decide) (by decide)
        obtain ⟨b29, g29⟩ : ∃ z, z = h0.size := ⟨_, rfl⟩
        rw [← g29] at A29 D29 st29
        have ge_b29 : n0 ≤ b29 := Nat.le_trans Z0 (Nat.le_of_eq g29.symm)
        have sz_b29 : h0.size ≤ b29 := Nat.le_trans ((Keep.refl h0 [])).1 (Nat.le_of_eq g29.symm)
        have Z29 : n0 ≤ h29.size := Nat.le_trans Z0 E29.1
        have F29_value : Fld Z h29 b29 "java/lang/String" "value" "[B" .null := D29 (Or.inr (hw _ (List.mem_of_getElem? (i := 21) rfl))) (ty := (.array .byte)) (by decide)
        have F29_coder : Fld Z h29 b29 "java/lang/String" "coder" "B" (.int (0 : Int32)) := D29 (Or.inr (hw _ (List.mem_of_getElem? (i := 22) rfl))) (ty := .byte) (by decide)
        have C29 := CHv.ext E29 hC0
        have R29 := R0.trans (CHr.ext E29 hC0)
        have hk29 := Nat.le_trans hk0 E29.1
        have KK29 : Keep h0 h29 [] := ((Keep.refl h0 [])).ext E29
        refine Done.st (B := T29.setTop (mkF m 62 #[.val (.int nn), .val (.int cx), .val (.int cy), .val (.int cz)] [(.ref b29)])) (fun _ k => st29 _ k) ?_
        refine Done.st (B := T29.setTop (mkF m 63 #[.val (.int nn), .val (.int cx), .val (.int cy), .val (.int cz)] [(.ref b29), (.ref b29)])) (fun _ k => XS.dup X29.here hx rfl (hb hby d1_62) rfl rfl k) ?_
        refine Done.st (B := T29.setTop (mkF m 64 #[.val (.int nn), .val (.int cx), .val (.int cy), .val (.int cz)] [(.int (3 : Int32)), (.ref b29), (.ref b29)])) (fun _ k => XS.iconst X29.here hx rfl (hb hby d1_63) k) ?_
        obtain ⟨T30, h30, k30, X30, e30, E30, A30, st30⟩ := newP X29 hx hZ (hw _ (List.mem_of_getElem? (i := 8) rfl)) e29 (g := (mkF m 64 #[.val (.int nn), .val (.int cx), .val (.int cy), .val (.int cz)] [(.int (3 : Int32)), (.ref b29), (.ref b29)])) rfl (hb hby d1_64) rfl (by decide) (cap := 3) (by decide) (by decide) (by decide) (by decide)
        obtain ⟨b30, g30⟩ : ∃ z, z = h29.size := ⟨_, rfl⟩
        rw [← g30] at A30 st30
        have ne_b29_b30 : b29 ≠ b30 := Nat.ne_of_lt (Nat.lt_of_lt_of_le A29.lt (Nat.le_of_eq g30.symm))
        have ge_b30 : n0 ≤ b30 := Nat.le_trans Z29 (Nat.le_of_eq g30.symm)
        have sz_b30 : h0.size ≤ b30 := Nat.le_trans (KK29).1 (Nat.le_of_eq g30.symm)
        have Z30 : n0 ≤ h30.size := Nat.le_trans Z29 E30.1
        have V30 : Arv Z h30 b30 k30 .char (3 : Int32) [(.int (0 : Int32)), (.int (0 : Int32)), (.int (0 : Int32))] (.int (0 : Int32)) := (Arv.new A30 (by decide)).pad (pad_rep [] (.int (0 : Int32)) 3)
        have C30 := CHv.ext E30 C29
        have R30 := R29.trans (CHr.ext E30 C29)
        have hk30 := Nat.le_trans hk29 E30.1
        have KK30 : Keep h0 h30 [] := (KK29).ext E30
        refine Done.st (B := T30.setTop (mkF m 66 #[.val (.int nn), .val (.int cx), .val (.int cy), .val (.int cz)] [(.ref b30), (.ref b29), (.ref b29)])) (fun _ k => st30 _ k) ?_
        refine Done.st (B := T30.setTop (mkF m 67 #[.val (.int nn), .val (.int cx), .val (.int cy), .val (.int cz)] [(.ref b30), (.ref b30), (.ref b29), (.ref b29)])) (fun _ k => XS.dup X30.here hx rfl (hb hby d1_66) rfl rfl k) ?_
        refine Done.st (B := T30.setTop (mkF m 68 #[.val (.int nn), .val (.int cx), .val (.int cy), .val (.int cz)] [(.int (0 : Int32)), (.ref b30), (.ref b30), (.ref b29), (.ref b29)])) (fun _ k => XS.iconst X30.here hx rfl (hb hby d1_67) k) ?_
        refine Done.st (B := T30.setTop (mkF m 69 #[.val (.int nn), .val (.int cx), .val (.int cy), .val (.int cz)] [(.int cx), (.int (0 : Int32)), (.ref b30), (.ref b30), (.ref b29), (.ref b29)])) (fun _ k => XS.iloadN X30.here hx rfl (hb hby d1_68) rfl k) ?_
        obtain ⟨cl31, Ar31, q31, S31, M31, H31, G31⟩ := id V30
        have hin31 : ¬ ((0 : Int32) < 0 ∨ cl31.slots.size ≤ ((0 : Int32)).toNatClampNeg) := inb_of S31 ⟨by decide, by decide⟩
        obtain ⟨T31, h31, X31, e31, W31, st31⟩ := stC X30 hx hZ e30 Ar31 (j := (0 : Int32)) hin31 (g := (mkF m 69 #[.val (.int nn), .val (.int cx), .val (.int cy), .val (.int cz)] [(.int cx), (.int (0 : Int32)), (.ref b30), (.ref b30), (.ref b29), (.ref b29)])) rfl rfl (hb hby d1_69)
        have V31 : Arv Z h31 b30 k30 .char (3 : Int32) [(.int (nar .char cx)), (.int (0 : Int32)), (.int (0 : Int32))] (.int (0 : Int32)) := Arv.set Ar31 q31 S31 M31 H31 G31 (fits_nar_char _) W31 0 rfl (Nat.le_of_ble_eq_true rfl)
        have N31 := Fr.snoc X31 N0 ge_b30
        have Z31 : n0 ≤ h31.size := Nat.le_trans Z30 (Keep.of_wr W31).1
        have C31 := CHv.wr W31 (Safe.arv (EL := own_EL) hZ.alike V30 (by decide)) C30
        have R31 := R30.trans (CHr.wr W31 (Safe.arv (EL := own_EL) hZ.alike V30 (by decide)) C30)
        have hk31 := Nat.le_trans hk30 (Keep.of_wr W31).1
        have sf31 := Safe.wr W31 (Safe.arv (EL := own_EL) hZ.alike V30 (by decide)) C30 (Safe.arv (EL := own_EL) hZ.alike V30 (by decide))
        have KK31 : Keep h0 h31 [] := (KK30).wr W31 (Or.inr sz_b30)
        refine Done.st (B := T31.setTop (mkF m 70 #[.val (.int nn), .val (.int cx), .val (.int cy), .val (.int cz)] [(.ref b30), (.ref b29), (.ref b29)])) (fun _ k => st31 _ k) ?_
        refine Done.st (B := T31.setTop (mkF m 71 #[.val (.int nn), .val (.int cx), .val (.int cy), .val (.int cz)] [(.ref b30), (.ref b30), (.ref b29), (.ref b29)])) (fun _ k => XS.dup X31.here hx rfl (hb hby d1_70) rfl rfl k) ?_
        refine Done.st (B := T31.setTop (mkF m 72 #[.val (.int nn), .val (.int cx), .val (.int cy), .val (.int cz)] [(.int (1 : Int32)), (.ref b30), (.ref b30), (.ref b29), (.ref b29)])) (fun _ k => XS.iconst X31.here hx rfl (hb hby d1_71) k) ?_
        refine Done.st (B := T31.setTop (mkF m 73 #[.val (.int nn), .val (.int cx), .val (.int cy), .val (.int cz)] [(.int cy), (.int (1 : Int32)), (.ref b30), (.ref b30), (.ref b29), (.ref b29)])) (fun _ k => XS.iloadN X31.here hx rfl (hb hby d1_72) rfl k) ?_
        obtain ⟨cl32, Ar32, q32, S32, M32, H32, G32⟩ := id V31
        have hin32 : ¬ ((1 : Int32) < 0 ∨ cl32.slots.size ≤ ((1 : Int32)).toNatClampNeg) := inb_of S32 ⟨by decide, by decide⟩
        obtain ⟨T32, h32, X32, e32, W32, st32⟩ := stC X31 hx hZ e31 Ar32 (j := (1 : Int32)) hin32 (g := (mkF m 73 #[.val (.int nn), .val (.int cx), .val (.int cy), .val (.int cz)] [(.int cy), (.int (1 : Int32)), (.ref b30), (.ref b30), (.ref b29), (.ref b29)])) rfl rfl (hb hby d1_73)
        have V32 : Arv Z h32 b30 k30 .char (3 : Int32) [(.int (nar .char cx)), (.int (nar .char cy)), (.int (0 : Int32))] (.int (0 : Int32)) := Arv.set Ar32 q32 S32 M32 H32 G32 (fits_nar_char _) W32 1 rfl (Nat.le_of_ble_eq_true rfl)
        have N32 := Fr.snoc X32 N31 ge_b30
        have Z32 : n0 ≤ h32.size := Nat.le_trans Z31 (Keep.of_wr W32).1
        have C32 := CHv.wr W32 sf31 C31
        have R32 := R31.trans (CHr.wr W32 sf31 C31)
        have hk32 := Nat.le_trans hk31 (Keep.of_wr W32).1
        have sf32 := Safe.wr W32 sf31 C31 sf31
        have KK32 : Keep h0 h32 [] := (KK31).wr W32 (Or.inr sz_b30)
        refine Done.st (B := T32.setTop (mkF m 74 #[.val (.int nn), .val (.int cx), .val (.int cy), .val (.int cz)] [(.ref b30), (.ref b29), (.ref b29)])) (fun _ k => st32 _ k) ?_
        refine Done.st (B := T32.setTop (mkF m 75 #[.val (.int nn), .val (.int cx), .val (.int cy), .val (.int cz)] [(.ref b30), (.ref b30), (.ref b29), (.ref b29)])) (fun _ k => XS.dup X32.here hx rfl (hb hby d1_74) rfl rfl k) ?_
        refine Done.st (B := T32.setTop (mkF m 76 #[.val (.int nn), .val (.int cx), .val (.int cy), .val (.int cz)] [(.int (2 : Int32)), (.ref b30), (.ref b30), (.ref b29), (.ref b29)])) (fun _ k => XS.iconst X32.here hx rfl (hb hby d1_75) k) ?_
        refine Done.st (B := T32.setTop (mkF m 77 #[.val (.int nn), .val (.int cx), .val (.int cy), .val (.int cz)] [(.int cz), (.int (2 : Int32)), (.ref b30), (.ref b30), (.ref b29), (.ref b29)])) (fun _ k => XS.iloadN X32.here hx rfl (hb hby d1_76) rfl k) ?_
        obtain ⟨cl33, Ar33, q33, S33, M33, H33, G33⟩ := id V32
        have hin33 : ¬ ((2 : Int32) < 0 ∨ cl33.slots.size ≤ ((2 : Int32)).toNatClampNeg) := inb_of S33 ⟨by decide, by decide⟩
        obtain ⟨T33, h33, X33, e33, W33, st33⟩ := stC X32 hx hZ e32 Ar33 (j := (2 : Int32)) hin33 (g := (mkF m 77 #[.val (.int nn), .val (.int cx), .val (.int cy), .val (.int cz)] [(.int cz), (.int (2 : Int32)), (.ref b30), (.ref b30), (.ref b29), (.ref b29)])) rfl rfl (hb hby d1_77)
        have V33 : Arv Z h33 b30 k30 .char (3 : Int32) [(.int (nar .char cx)), (.int (nar .char cy)), (.int (nar .char cz))] (.int (0 : Int32)) := Arv.set Ar33 q33 S33 M33 H33 G33 (fits_nar_char _) W33 2 rfl (Nat.le_of_ble_eq_true rfl)
        have N33 := Fr.snoc X33 N32 ge_b30
        have Z33 : n0 ≤ h33.size := Nat.le_trans Z32 (Keep.of_wr W33).1
        have C33 := CHv.wr W33 sf32 C32
        have R33 := R32.trans (CHr.wr W33 sf32 C32)
        have hk33 := Nat.le_trans hk32 (Keep.of_wr W33).1
        have sf33 := Safe.wr W33 sf32 C32 sf32
        have KK33 : Keep h0 h33 [] := (KK32).wr W33 (Or.inr sz_b30)
        refine Done.st (B := T33.setTop (mkF m 78 #[.val (.int nn), .val (.int cx), .val (.int cy), .val (.int cz)] [(.ref b30), (.ref b29), (.ref b29)])) (fun _ k => st33 _ k) ?_
        have Kc34 : Arv Z h33 b30 k30 .char (3 : Int32) (([cx, cy, cz] : List Int32).map Value.int) (.int (0 : Int32)) := by
          have z := V33
          simp only [own_nar hcx, own_nar hcy, own_nar hz3] at z
          exact z
        have hp34 : ∀ c ∈ ([cx, cy, cz] : List Int32), ¬ c < 0 ∧ ¬ (255 : Int32) < c := by
          intro c hc
          simp only [List.mem_cons, List.not_mem_nil, or_false] at hc
          rcases hc with rfl | rfl | rfl
          · exact hcx
          · exact hcy
          · exact hz3
        have c35 := (Exa.wr W33 (Exa.wr W32 (Exa.wr W31 (Exa.ext E30 A29))))
        have c36 := (Fld.other W33 (Fld.other W32 (Fld.other W31 (Fld.ext E30 F29_value) (Or.inl ne_b29_b30)) (Or.inl ne_b29_b30)) (Or.inl ne_b29_b30))
        have c37 := (Fld.other W33 (Fld.other W32 (Fld.other W31 (Fld.ext E30 F29_coder) (Or.inl ne_b29_b30)) (Or.inl ne_b29_b30)) (Or.inl ne_b29_b30))
        have c38 := (Sta.wr W33 (Sta.wr W32 (Sta.wr W31 (Sta.ext E30 (Sta.ext E29 S_z)))))
        obtain ⟨_, _, ⟨T39, L39, k39, n39⟩, -, X39, ⟨Lc39, hQ39, l39, y39, z39⟩, st39⟩ := X33.specialBack hx (y := (⟨"java/lang/String", "<init>", "([C)V"⟩ : MethodName)) rfl hown (mvT hZ (hw _ (List.mem_of_getElem? (i := 9) rfl))) (mvT hZ (hw _ (List.mem_of_getElem? (i := 10) rfl))) (mvT hZ (hw _ (List.mem_of_getElem? (i := 11) rfl))) (by decide) (StrChars.Road.backV (W := 1) hZ (own_ws hw) (kI := 4) (hw _ (List.mem_of_getElem? (i := 6) rfl)) (cs := ([cx, cy, cz] : List Int32)) (bs := ([cx, cy, cz] : List Int32).map (fun c => c.toInt8.toInt32)) (n := 3) ge_b29 Z33 c35 c36 c37 Kc34 c38 hz rfl rfl (by decide) (by decide) hp34 rfl (by decide) (by decide)) (g := (mkF m 78 #[.val (.int nn), .val (.int cx), .val (.int cy), .val (.int cz)] [(.ref b30), (.ref b29), (.ref b29)])) rfl (by rw [hml]; rfl) (Steps.refl _) (a := b29) (argsL := [(.ref b30)]) (rest := [(.ref b29)]) (lenOf pd_1 rfl) rfl (by show 2 * 0 + _ ≤ _; exact Nat.le_of_eq rfl) (hb hby d1_78) (fun _ _ => ⟨rfl, e33, (by decide : 2 + 1 ≤ _), (by decide : 7 + 3 ≤ _)⟩)
        dsimp only [Pt.U, Pt.locs, Pt.cells, Pt.slots] at X39 l39 y39 z39 st39 hQ39
        subst l39 y39 z39
        obtain ⟨rfl, N39q, K39, qe39, qc39, t39, kb39, -, -, -, qv39, qa39⟩ := hQ39
        have N39 := Fr.app N33 N39q
        have T_39 : Str Z T39.heap b29 [cx, cy, cz] := ⟨t39, kb39, qe39, qc39, qv39, qa39⟩
        have C39 := CHv.keep K39 (sfS (own_blank (EL := own_EL) hZ.alike c35 c36) sf0) C33
        have R39 := R33.trans (CHr.keep K39 (sfS (own_blank (EL := own_EL) hZ.alike c35 c36) sf0) C33)
        have hk39 := Nat.le_trans hk33 K39.1
        have Z39 : n0 ≤ T39.heap.size := Nat.le_trans Z33 K39.1
        have KK39 : Keep h0 T39.heap [] := (KK33).trans K39 (allS (Or.inr sz_b29) all0)
        refine Done.st (B := T39.setTop (mkF m 81 #[.val (.int nn), .val (.int cx), .val (.int cy), .val (.int cz)] [(.ref b29)])) (fun _ k => st39.trans k) ?_
        obtain ⟨fs, hr, hrun, hended, hWW⟩ := X39.leaveW hS0 hk39 (v := some (.ref b29)) (hlocks := hlk) (fun h => by rw [Bd.returns] at h; cases h)
        refine Done.fin (retR X39 hx Bd.returns rfl rfl (hb hby d1_81) hr) hrun hended ⟨_, _, rfl, ?_, ?_, hWW.1, hWW.2.1, hWW.2.2.1, hWW.2.2.2.mono (by decide) (by decide)⟩
        rotate_left
        · show CHr Z own_EL s.vm s.heap T39.vm T39.heap
          rw [hh]
          exact R39.trans (CHv.at X39 hZ hEL C39)
        show QrmB Z nn cx cy cz z h0 n0 _ T39.heap _
        exact ⟨b29, rfl, N39, sz_b29, KK39, by simpa [own_cs, hc1, hc17, hc37] using T_39⟩
theorem ef_rmK (m : MethodId) (i : Int32) : entryFrame m #[(.int i)] 1 = mkF m 0 #[.val (.int i)] [] := by first | (simp [entryFrame, mkF, argsToLocals, Value.category]; done) | rfl
def QrmK (Z : State) (i : Int32) (w_HEADER : Addr) (w_IDENTIFIER : Addr) (w_INTEGER : Addr) (w_STRING : Addr) (w_ALIAS : Addr) (w_PUNCTUATION : Addr) (w_BODY : Addr) (w_END : Addr) (w_ABORT : Addr) (w_EOF : Addr) (h0 : Heap) (n0 : Nat) (v : Option Value) (h : Heap) (L : List Loc) : Prop := v = some (.ref (own_kd i w_HEADER w_IDENTIFIER w_INTEGER w_STRING w_ALIAS w_PUNCTUATION w_BODY w_END w_ABORT w_EOF)) ∧ Fr n0 L ∧ h = h0
def PrmK (s : State) (Z : State) (i : Int32) (w_HEADER : Addr) (w_IDENTIFIER : Addr) (w_INTEGER : Addr) (w_STRING : Addr) (w_ALIAS : Addr) (w_PUNCTUATION : Addr) (w_BODY : Addr) (w_END : Addr) (w_ABORT : Addr) (w_EOF : Addr) (h0 : Heap) (n0 : Nat) : State → Outcome → Prop := fun U' o => ∃ v L, o = .returned v ∧ QrmK Z i w_HEADER w_IDENTIFIER w_INTEGER w_STRING w_ALIAS w_PUNCTUATION w_BODY w_END w_ABORT w_EOF h0 n0 v U'.heap L ∧ FrameEnd s o U' L ({ frames := 0, cells := 0, slots := 0, locals := 0 } : Room).cells ({ frames := 0, cells := 0, slots := 0, locals := 0 } : Room).slots
set_option maxRecDepth 65536 in
set_option maxHeartbeats 40000000 in
theorem rmK (l : Launch) (Z : State) (a0 : Array Value) (hw : ∀ d ∈ tables_1, d.before a0 Z = true) (ws : List Jvm.Cond) (i : Int32) (w_HEADER : Addr) (w_IDENTIFIER : Addr) (w_INTEGER : Addr) (w_STRING : Addr) (w_ALIAS : Addr) (w_PUNCTUATION : Addr) (w_BODY : Addr) (w_END : Addr) (w_ABORT : Addr) (w_EOF : Addr) (h0 : Heap) (n0 : Nat) (Z0 : n0 ≤ h0.size) (S_HEADER : Sta Z h0 "com/example/libbuchi/libbuchi/automaton/HoaTokenizer$Kind" "HEADER" "Lcom/example/libbuchi/libbuchi/automaton/HoaTokenizer$Kind;" (.ref w_HEADER)) (S_IDENTIFIER : Sta Z h0 "com/example/libbuchi/libbuchi/automaton/HoaTokenizer$Kind" "IDENTIFIER" "Lcom/example/libbuchi/libbuchi/automaton/HoaTokenizer$Kind;" (.ref w_IDENTIFIER)) (S_INTEGER : Sta Z h0 "com/example/libbuchi/libbuchi/automaton/HoaTokenizer$Kind" "INTEGER" "Lcom/example/libbuchi/libbuchi/automaton/HoaTokenizer$Kind;" (.ref w_INTEGER)) (S_STRING : Sta Z h0 "com/example/libbuchi/libbuchi/automaton/HoaTokenizer$Kind" "STRING" "Lcom/example/libbuchi/libbuchi/automaton/HoaTokenizer$Kind;" (.ref w_STRING)) (S_ALIAS : Sta Z h0 "com/example/libbuchi/libbuchi/automaton/HoaTokenizer$Kind" "ALIAS" "Lcom/example/libbuchi/libbuchi/automaton/HoaTokenizer$Kind;" (.ref w_ALIAS)) (S_PUNCTUATION : Sta Z h0 "com/example/libbuchi/libbuchi/automaton/HoaTokenizer$Kind" "PUNCTUATION" "Lcom/example/libbuchi/libbuchi/automaton/HoaTokenizer$Kind;" (.ref w_PUNCTUATION)) (S_BODY : Sta Z h0 "com/example/libbuchi/libbuchi/automaton/HoaTokenizer$Kind" "BODY" "Lcom/example/libbuchi/libbuchi/automaton/HoaTokenizer$Kind;" (.ref w_BODY)) (S_END : Sta Z h0 "com/example/libbuchi/libbuchi/automaton/HoaTokenizer$Kind" "END" "Lcom/example/libbuchi/libbuchi/automaton/HoaTokenizer$Kind;" (.ref w_END)) (S_ABORT : Sta Z h0 "com/example/libbuchi/libbuchi/automaton/HoaTokenizer$Kind" "ABORT" "Lcom/example/libbuchi/libbuchi/automaton/HoaTokenizer$Kind;" (.ref w_ABORT)) (S_EOF : Sta Z h0 "com/example/libbuchi/libbuchi/automaton/HoaTokenizer$Kind" "EOF" "Lcom/example/libbuchi/libbuchi/automaton/HoaTokenizer$Kind;" (.ref w_EOF)) :
    MetFree l (⟨"com/example/libbuchi/libbuchi/automaton/TokenIsPinLaw", "kindOf", "(I)Lcom/example/libbuchi/libbuchi/automaton/HoaTokenizer$Kind;"⟩ : MethodName) (head1 (Jvm.Cond.code (⟨"com/example/libbuchi/libbuchi/automaton/TokenIsPinLaw", "kindOf", "(I)Lcom/example/libbuchi/libbuchi/automaton/HoaTokenizer$Kind;"⟩ : MethodName) method_2_code 1 (some (.object "com/example/libbuchi/libbuchi/automaton/HoaTokenizer$Kind")) :: ws) ({ frames := 0, cells := 0, slots := 0, locals := 0 } : Room)) (fun aa U => aa = #[(.int i)] ∧ Z.Warmed39 U.vm ∧ U.heap = h0) (fun _ _ _ _ _ => True) (fun _ U o U' => ∃ v L, o = .returned v ∧ QrmK Z i w_HEADER w_IDENTIFIER w_INTEGER w_STRING w_ALIAS w_PUNCTUATION w_BODY w_END w_ABORT w_EOF h0 n0 v U'.heap L ∧ FrameEnd U o U' L ({ frames := 0, cells := 0, slots := 0, locals := 0 } : Room).cells ({ frames := 0, cells := 0, slots := 0, locals := 0 } : Room).slots) := by
  refine MetFree.of_bodySF (plainFor_of_name pn_1) hisR ?_
  intro p e s m args below meth c s₁ Bd hml0 hP hK
  obtain ⟨rfl, hZ, hh⟩ := hP
  have hx := Bd.exec
  have hlk : meth.locks = false := by first | exact BodyLoose.notSynchronized Bd | exact Body.notSynchronized Bd
  have hby := Bd.bytes
  have hml : c.maxLocals = 1 := hml0
  have hown : s.vm.findClass "com/example/libbuchi/libbuchi/automaton/TokenIsPinLaw" = some m.cls := findClass_of_methodNamed Bd.named
  have hnm := (name_of_methodNamed Bd.named Bd.method).1
  have X0 : Stand p l e ({ frames := 0, cells := 0, slots := 0, locals := 0 } : Room) s m #[(.int i)] below meth c s₁ [] 0 0 := Stand.of_body Bd
  have e0 : s₁.heap = h0 := by rw [← hh, Bd.state]; rfl
  have N0 := Fr.nil n0
  show Done p e below (PrmK s Z i w_HEADER w_IDENTIFIER w_INTEGER w_STRING w_ALIAS w_PUNCTUATION w_BODY w_END w_ABORT w_EOF h0 n0) (s₁.setTop (entryFrame m #[(.int i)] 1))
  refine Done.st (B := s₁.setTop (mkF m 0 #[.val (.int i)] [])) (fun _ k => castTop (ef_rmK m i) k) ?_
  refine Done.st (B := s₁.setTop (mkF m 1 #[.val (.int i)] [(.int i)])) (fun _ k => XS.iloadN X0.here hx rfl (hb hby d8_0) rfl k) ?_
  by_cases hc1 : i = (0 : Int32)
  · refine Done.st (B := s₁.setTop (mkF m 4 #[.val (.int i)] [])) (fun _ k => XS.ifNo X0.here hx rfl (hb hby d8_1) rfl ((if0 _ _).trans (teq hc1).2) k) ?_
    obtain ⟨T1, X1, e1, st1⟩ := getS2 X0 hx hZ hown (host := "") (Or.inl (hw _ (List.mem_of_getElem? (i := 74) rfl))) Via.refl e0 S_HEADER (g := (mkF m 4 #[.val (.int i)] [])) rfl (hb hby d8_4)
    refine Done.st (B := T1.setTop (mkF m 7 #[.val (.int i)] [(.ref w_HEADER)])) (fun _ k => st1 _ k) ?_
    obtain ⟨fs, hr, hrun, hended, hW, hsame⟩ := X1.leave (v := some (.ref w_HEADER)) (hlocks := hlk) (fun h => by rw [Bd.returns] at h; cases h)
    refine Done.fin (retR X1 hx Bd.returns rfl rfl (hb hby d8_7) hr) hrun hended ⟨_, _, rfl, ?_, ⟨_, rfl⟩, hW, hsame.mono (by decide) (by decide)⟩
    show QrmK Z i w_HEADER w_IDENTIFIER w_INTEGER w_STRING w_ALIAS w_PUNCTUATION w_BODY w_END w_ABORT w_EOF h0 n0 _ T1.heap _
    rw [e1]
    exact ⟨by simp [own_kd, hc1], N0, rfl⟩
  · refine Done.st (B := s₁.setTop (mkF m 8 #[.val (.int i)] [])) (fun _ k => XS.ifYes X0.here hx rfl (pc0 := 1) (pc' := 8) rfl (hb hby d8_1) rfl ((if0 _ _).trans (feq hc1).2) (by decide) (by decide) k) ?_
    refine Done.st (B := s₁.setTop (mkF m 9 #[.val (.int i)] [(.int i)])) (fun _ k => XS.iloadN X0.here hx rfl (hb hby d8_8) rfl k) ?_
    refine Done.st (B := s₁.setTop (mkF m 10 #[.val (.int i)] [(.int (1 : Int32)), (.int i)])) (fun _ k => XS.iconst X0.here hx rfl (hb hby d8_9) k) ?_
    by_cases hc10 : i = (1 : Int32)
    · refine Done.st (B := s₁.setTop (mkF m 13 #[.val (.int i)] [])) (fun _ k => XS.icmpNo X0.here hx rfl (hb hby d8_10) rfl (teq hc10).2 k) ?_
      obtain ⟨T3, X3, e3, st3⟩ := getS2 X0 hx hZ hown (host := "") (Or.inl (hw _ (List.mem_of_getElem? (i := 57) rfl))) Via.refl e0 S_IDENTIFIER (g := (mkF m 13 #[.val (.int i)] [])) rfl (hb hby d8_13)
      refine Done.st (B := T3.setTop (mkF m 16 #[.val (.int i)] [(.ref w_IDENTIFIER)])) (fun _ k => st3 _ k) ?_
      obtain ⟨fs, hr, hrun, hended, hW, hsame⟩ := X3.leave (v := some (.ref w_IDENTIFIER)) (hlocks := hlk) (fun h => by rw [Bd.returns] at h; cases h)
      refine Done.fin (retR X3 hx Bd.returns rfl rfl (hb hby d8_16) hr) hrun hended ⟨_, _, rfl, ?_, ⟨_, rfl⟩, hW, hsame.mono (by decide) (by decide)⟩
      show QrmK Z i w_HEADER w_IDENTIFIER w_INTEGER w_STRING w_ALIAS w_PUNCTUATION w_BODY w_END w_ABORT w_EOF h0 n0 _ T3.heap _
      rw [e3]
      exact ⟨by simp [own_kd, hc1, hc10], N0, rfl⟩
    · refine Done.st (B := s₁.setTop (mkF m 17 #[.val (.int i)] [])) (fun _ k => XS.icmpYes X0.here hx rfl (pc0 := 10) (pc' := 17) rfl (hb hby d8_10) rfl (feq hc10).2 (by decide) (by decide) k) ?_
      refine Done.st (B := s₁.setTop (mkF m 18 #[.val (.int i)] [(.int i)])) (fun _ k => XS.iloadN X0.here hx rfl (hb hby d8_17) rfl k) ?_
      refine Done.st (B := s₁.setTop (mkF m 19 #[.val (.int i)] [(.int (2 : Int32)), (.int i)])) (fun _ k => XS.iconst X0.here hx rfl (hb hby d8_18) k) ?_
      by_cases hc19 : i = (2 : Int32)
      · refine Done.st (B := s₁.setTop (mkF m 22 #[.val (.int i)] [])) (fun _ k => XS.icmpNo X0.here hx rfl (hb hby d8_19) rfl (teq hc19).2 k) ?_
        obtain ⟨T5, X5, e5, st5⟩ := getS2 X0 hx hZ hown (host := "") (Or.inl (hw _ (List.mem_of_getElem? (i := 44) rfl))) Via.refl e0 S_INTEGER (g := (mkF m 22 #[.val (.int i)] [])) rfl (hb hby d8_22)
        refine Done.st (B := T5.setTop (mkF m 25 #[.val (.int i)] [(.ref w_INTEGER)])) (fun _ k => st5 _ k) ?_
        obtain ⟨fs, hr, hrun, hended, hW, hsame⟩ := X5.leave (v := some (.ref w_INTEGER)) (hlocks := hlk) (fun h => by rw [Bd.returns] at h; cases h)
        refine Done.fin (retR X5 hx Bd.returns rfl rfl (hb hby d8_25) hr) hrun hended ⟨_, _, rfl, ?_, ⟨_, rfl⟩, hW, hsame.mono (by decide) (by decide)⟩
        show QrmK Z i w_HEADER w_IDENTIFIER w_INTEGER w_STRING w_ALIAS w_PUNCTUATION w_BODY w_END w_ABORT w_EOF h0 n0 _ T5.heap _
        rw [e5]
        exact ⟨by simp [own_kd, hc1, hc10, hc19], N0, rfl⟩
      · refine Done.st (B := s₁.setTop (mkF m 26 #[.val (.int i)] [])) (fun _ k => XS.icmpYes X0.here hx rfl (pc0 := 19) (pc' := 26) rfl (hb hby d8_19) rfl (feq hc19).2 (by decide) (by decide) k) ?_
        refine Done.st (B := s₁.setTop (mkF m 27 #[.val (.int i)] [(.int i)])) (fun _ k => XS.iloadN X0.here hx rfl (hb hby d8_26) rfl k) ?_
        refine Done.st (B := s₁.setTop (mkF m 28 #[.val (.int i)] [(.int (3 : Int32)), (.int i)])) (fun _ k => XS.iconst X0.here hx rfl (hb hby d8_27) k) ?_
        by_cases hc28 : i = (3 : Int32)
        · refine Done.st (B := s₁.setTop (mkF m 31 #[.val (.int i)] [])) (fun _ k => XS.icmpNo X0.here hx rfl (hb hby d8_28) rfl (teq hc28).2 k) ?_
          obtain ⟨T7, X7, e7, st7⟩ := getS2 X0 hx hZ hown (host := "") (Or.inl (hw _ (List.mem_of_getElem? (i := 76) rfl))) Via.refl e0 S_STRING (g := (mkF m 31 #[.val (.int i)] [])) rfl (hb hby d8_31)
          refine Done.st (B := T7.setTop (mkF m 34 #[.val (.int i)] [(.ref w_STRING)])) (fun _ k => st7 _ k) ?_
          obtain ⟨fs, hr, hrun, hended, hW, hsame⟩ := X7.leave (v := some (.ref w_STRING)) (hlocks := hlk) (fun h => by rw [Bd.returns] at h; cases h)
          refine Done.fin (retR X7 hx Bd.returns rfl rfl (hb hby d8_34) hr) hrun hended ⟨_, _, rfl, ?_, ⟨_, rfl⟩, hW, hsame.mono (by decide) (by decide)⟩
          show QrmK Z i w_HEADER w_IDENTIFIER w_INTEGER w_STRING w_ALIAS w_PUNCTUATION w_BODY w_END w_ABORT w_EOF h0 n0 _ T7.heap _
          rw [e7]
          exact ⟨by simp [own_kd, hc1, hc10, hc19, hc28], N0, rfl⟩
        · refine Done.st (B := s₁.setTop (mkF m 35 #[.val (.int i)] [])) (fun _ k => XS.icmpYes X0.here hx rfl (pc0 := 28) (pc' := 35) rfl (hb hby d8_28) rfl (feq hc28).2 (by decide) (by decide) k) ?_
          refine Done.st (B := s₁.setTop (mkF m 36 #[.val (.int i)] [(.int i)])) (fun _ k => XS.iloadN X0.here hx rfl (hb hby d8_35) rfl k) ?_
          refine Done.st (B := s₁.setTop (mkF m 37 #[.val (.int i)] [(.int (4 : Int32)), (.int i)])) (fun _ k => XS.iconst X0.here hx rfl (hb hby d8_36) k) ?_
          by_cases hc37 : i = (4 : Int32)
          · refine Done.st (B := s₁.setTop (mkF m 40 #[.val (.int i)] [])) (fun _ k => XS.icmpNo X0.here hx rfl (hb hby d8_37) rfl (teq hc37).2 k) ?_
            obtain ⟨T9, X9, e9, st9⟩ := getS2 X0 hx hZ hown (host := "") (Or.inl (hw _ (List.mem_of_getElem? (i := 68) rfl))) Via.refl e0 S_ALIAS (g := (mkF m 40 #[.val (.int i)] [])) rfl (hb hby d8_40)
            refine Done.st (B := T9.setTop (mkF m 43 #[.val (.int i)] [(.ref w_ALIAS)])) (fun _ k => st9 _ k) ?_
            obtain ⟨fs, hr, hrun, hended, hW, hsame⟩ := X9.leave (v := some (.ref w_ALIAS)) (hlocks := hlk) (fun h => by rw [Bd.returns] at h; cases h)
            refine Done.fin (retR X9 hx Bd.returns rfl rfl (hb hby d8_43) hr) hrun hended ⟨_, _, rfl, ?_, ⟨_, rfl⟩, hW, hsame.mono (by decide) (by decide)⟩
            show QrmK Z i w_HEADER w_IDENTIFIER w_INTEGER w_STRING w_ALIAS w_PUNCTUATION w_BODY w_END w_ABORT w_EOF h0 n0 _ T9.heap _
            rw [e9]
            exact ⟨by simp [own_kd, hc1, hc10, hc19, hc28, hc37], N0, rfl⟩
          · refine Done.st (B := s₁.setTop (mkF m 44 #[.val (.int i)] [])) (fun _ k => XS.icmpYes X0.here hx rfl (pc0 := 37) (pc' := 44) rfl (hb hby d8_37) rfl (feq hc37).2 (by decide) (by decide) k) ?_
            refine Done.st (B := s₁.setTop (mkF m 45 #[.val (.int i)] [(.int i)])) (fun _ k => XS.iloadN X0.here hx rfl (hb hby d8_44) rfl k) ?_
            refine Done.st (B := s₁.setTop (mkF m 46 #[.val (.int i)] [(.int (5 : Int32)), (.int i)])) (fun _ k => XS.iconst X0.here hx rfl (hb hby d8_45) k) ?_
            by_cases hc46 : i = (5 : Int32)
            · refine Done.st (B := s₁.setTop (mkF m 49 #[.val (.int i)] [])) (fun _ k => XS.icmpNo X0.here hx rfl (hb hby d8_46) rfl (teq hc46).2 k) ?_
              obtain ⟨T11, X11, e11, st11⟩ := getS2 X0 hx hZ hown (host := "") (Or.inl (hw _ (List.mem_of_getElem? (i := 64) rfl))) Via.refl e0 S_PUNCTUATION (g := (mkF m 49 #[.val (.int i)] [])) rfl (hb hby d8_49)
              refine Done.st (B := T11.setTop (mkF m 52 #[.val (.int i)] [(.ref w_PUNCTUATION)])) (fun _ k => st11 _ k) ?_
              obtain ⟨fs, hr, hrun, hended, hW, hsame⟩ := X11.leave (v := some (.ref w_PUNCTUATION)) (hlocks := hlk) (fun h => by rw [Bd.returns] at h; cases h)
              refine Done.fin (retR X11 hx Bd.returns rfl rfl (hb hby d8_52) hr) hrun hended ⟨_, _, rfl, ?_, ⟨_, rfl⟩, hW, hsame.mono (by decide) (by decide)⟩
              show QrmK Z i w_HEADER w_IDENTIFIER w_INTEGER w_STRING w_ALIAS w_PUNCTUATION w_BODY w_END w_ABORT w_EOF h0 n0 _ T11.heap _
              rw [e11]
              exact ⟨by simp [own_kd, hc1, hc10, hc19, hc28, hc37, hc46], N0, rfl⟩
            · refine Done.st (B := s₁.setTop (mkF m 53 #[.val (.int i)] [])) (fun _ k => XS.icmpYes X0.here hx rfl (pc0 := 46) (pc' := 53) rfl (hb hby d8_46) rfl (feq hc46).2 (by decide) (by decide) k) ?_
              refine Done.st (B := s₁.setTop (mkF m 54 #[.val (.int i)] [(.int i)])) (fun _ k => XS.iloadN X0.here hx rfl (hb hby d8_53) rfl k) ?_
              refine Done.st (B := s₁.setTop (mkF m 56 #[.val (.int i)] [(.int (6 : Int32)), (.int i)])) (fun _ k => XS.bipush X0.here hx rfl (hb hby d8_54) k) ?_
              by_cases hc56 : i = (6 : Int32)
              · refine Done.st (B := s₁.setTop (mkF m 59 #[.val (.int i)] [])) (fun _ k => XS.icmpNo X0.here hx rfl (hb hby d8_56) rfl (teq hc56).2 k) ?_
                obtain ⟨T13, X13, e13, st13⟩ := getS2 X0 hx hZ hown (host := "") (Or.inl (hw _ (List.mem_of_getElem? (i := 70) rfl))) Via.refl e0 S_BODY (g := (mkF m 59 #[.val (.int i)] [])) rfl (hb hby d8_59)
                refine Done.st (B := T13.setTop (mkF m 62 #[.val (.int i)] [(.ref w_BODY)])) (fun _ k => st13 _ k) ?_
                obtain ⟨fs, hr, hrun, hended, hW, hsame⟩ := X13.leave (v := some (.ref w_BODY)) (hlocks := hlk) (fun h => by rw [Bd.returns] at h; cases h)
                refine Done.fin (retR X13 hx Bd.returns rfl rfl (hb hby d8_62) hr) hrun hended ⟨_, _, rfl, ?_, ⟨_, rfl⟩, hW, hsame.mono (by decide) (by decide)⟩
                show QrmK Z i w_HEADER w_IDENTIFIER w_INTEGER w_STRING w_ALIAS w_PUNCTUATION w_BODY w_END w_ABORT w_EOF h0 n0 _ T13.heap _
                rw [e13]
                exact ⟨by simp [own_kd, hc1, hc10, hc19, hc28, hc37, hc46, hc56], N0, rfl⟩
              · refine Done.st (B := s₁.setTop (mkF m 63 #[.val (.int i)] [])) (fun _ k => XS.icmpYes X0.here hx rfl (pc0 := 56) (pc' := 63) rfl (hb hby d8_56) rfl (feq hc56).2 (by decide) (by decide) k) ?_
                refine Done.st (B := s₁.setTop (mkF m 64 #[.val (.int i)] [(.int i)])) (fun _ k => XS.iloadN X0.here hx rfl (hb hby d8_63) rfl k) ?_
                refine Done.st (B := s₁.setTop (mkF m 66 #[.val (.int i)] [(.int (7 : Int32)), (.int i)])) (fun _ k => XS.bipush X0.here hx rfl (hb hby d8_64) k) ?_
                by_cases hc66 : i = (7 : Int32)
                · refine Done.st (B := s₁.setTop (mkF m 69 #[.val (.int i)] [])) (fun _ k => XS.icmpNo X0.here hx rfl (hb hby d8_66) rfl (teq hc66).2 k) ?_
                  obtain ⟨T15, X15, e15, st15⟩ := getS2 X0 hx hZ hown (host := "") (Or.inl (hw _ (List.mem_of_getElem? (i := 66) rfl))) Via.refl e0 S_END (g := (mkF m 69 #[.val (.int i)] [])) rfl (hb hby d8_69)
                  refine Done.st (B := T15.setTop (mkF m 72 #[.val (.int i)] [(.ref w_END)])) (fun _ k => st15 _ k) ?_
                  obtain ⟨fs, hr, hrun, hended, hW, hsame⟩ := X15.leave (v := some (.ref w_END)) (hlocks := hlk) (fun h => by rw [Bd.returns] at h; cases h)
                  refine Done.fin (retR X15 hx Bd.returns rfl rfl (hb hby d8_72) hr) hrun hended ⟨_, _, rfl, ?_, ⟨_, rfl⟩, hW, hsame.mono (by decide) (by decide)⟩
                  show QrmK Z i w_HEADER w_IDENTIFIER w_INTEGER w_STRING w_ALIAS w_PUNCTUATION w_BODY w_END w_ABORT w_EOF h0 n0 _ T15.heap _
                  rw [e15]
                  exact ⟨by simp [own_kd, hc1, hc10, hc19, hc28, hc37, hc46, hc56, hc66], N0, rfl⟩
                · refine Done.st (B := s₁.setTop (mkF m 73 #[.val (.int i)] [])) (fun _ k => XS.icmpYes X0.here hx rfl (pc0 := 66) (pc' := 73) rfl (hb hby d8_66) rfl (feq hc66).2 (by decide) (by decide) k) ?_
                  refine Done.st (B := s₁.setTop (mkF m 74 #[.val (.int i)] [(.int i)])) (fun _ k => XS.iloadN X0.here hx rfl (hb hby d8_73) rfl k) ?_
                  refine Done.st (B := s₁.setTop (mkF m 76 #[.val (.int i)] [(.int (8 : Int32)), (.int i)])) (fun _ k => XS.bipush X0.here hx rfl (hb hby d8_74) k) ?_
                  by_cases hc76 : i = (8 : Int32)
                  · refine Done.st (B := s₁.setTop (mkF m 79 #[.val (.int i)] [])) (fun _ k => XS.icmpNo X0.here hx rfl (hb hby d8_76) rfl (teq hc76).2 k) ?_
                    obtain ⟨T17, X17, e17, st17⟩ := getS2 X0 hx hZ hown (host := "") (Or.inl (hw _ (List.mem_of_getElem? (i := 72) rfl))) Via.refl e0 S_ABORT (g := (mkF m 79 #[.val (.int i)] [])) rfl (hb hby d8_79)
                    refine Done.st (B := T17.setTop (mkF m 82 #[.val (.int i)] [(.ref w_ABORT)])) (fun _ k => st17 _ k) ?_
                    obtain ⟨fs, hr, hrun, hended, hW, hsame⟩ := X17.leave (v := some (.ref w_ABORT)) (hlocks := hlk) (fun h => by rw [Bd.returns] at h; cases h)
                    refine Done.fin (retR X17 hx Bd.returns rfl rfl (hb hby d8_82) hr) hrun hended ⟨_, _, rfl, ?_, ⟨_, rfl⟩, hW, hsame.mono (by decide) (by decide)⟩
                    show QrmK Z i w_HEADER w_IDENTIFIER w_INTEGER w_STRING w_ALIAS w_PUNCTUATION w_BODY w_END w_ABORT w_EOF h0 n0 _ T17.heap _
                    rw [e17]
                    exact ⟨by simp [own_kd, hc1, hc10, hc19, hc28, hc37, hc46, hc56, hc66, hc76], N0, rfl⟩
                  · refine Done.st (B := s₁.setTop (mkF m 83 #[.val (.int i)] [])) (fun _ k => XS.icmpYes X0.here hx rfl (pc0 := 76) (pc' := 83) rfl (hb hby d8_76) rfl (feq hc76).2 (by decide) (by decide) k) ?_
                    obtain ⟨T19, X19, e19, st19⟩ := getS2 X0 hx hZ hown (host := "") (Or.inl (hw _ (List.mem_of_getElem? (i := 88) rfl))) Via.refl e0 S_EOF (g := (mkF m 83 #[.val (.int i)] [])) rfl (hb hby d8_83)
                    refine Done.st (B := T19.setTop (mkF m 86 #[.val (.int i)] [(.ref w_EOF)])) (fun _ k => st19 _ k) ?_
                    obtain ⟨fs, hr, hrun, hended, hW, hsame⟩ := X19.leave (v := some (.ref w_EOF)) (hlocks := hlk) (fun h => by rw [Bd.returns] at h; cases h)
                    refine Done.fin (retR X19 hx Bd.returns rfl rfl (hb hby d8_86) hr) hrun hended ⟨_, _, rfl, ?_, ⟨_, rfl⟩, hW, hsame.mono (by decide) (by decide)⟩
                    show QrmK Z i w_HEADER w_IDENTIFIER w_INTEGER w_STRING w_ALIAS w_PUNCTUATION w_BODY w_END w_ABORT w_EOF h0 n0 _ T19.heap _
                    rw [e19]
                    exact ⟨by simp [own_kd, hc1, hc10, hc19, hc28, hc37, hc46, hc56, hc66, hc76], N0, rfl⟩
theorem ef_rmT (m : MethodId) (a : Addr) (kd : Addr) (tx : Addr) (li : Int32) : entryFrame m #[(.ref a), (.ref kd), (.ref tx), (.int li)] 4 = mkF m 0 #[.val (.ref a), .val (.ref kd), .val (.ref tx), .val (.int li)] [] := by first | (simp [entryFrame, mkF, argsToLocals, Value.category]; done) | rfl
def QrmT (Z : State) (a : Addr) (kd : Addr) (tx : Addr) (li : Int32) (h0 : Heap) (n0 : Nat) (v : Option Value) (h : Heap) (L : List Loc) : Prop := v = none ∧ Fr n0 L ∧ Keep h0 h [a] ∧ Exa Z h a "com/example/libbuchi/libbuchi/automaton/HoaTokenizer$Token" ∧ Fld Z h a "com/example/libbuchi/libbuchi/automaton/HoaTokenizer$Token" "kind" "Lcom/example/libbuchi/libbuchi/automaton/HoaTokenizer$Kind;" (.ref kd) ∧ Fld Z h a "com/example/libbuchi/libbuchi/automaton/HoaTokenizer$Token" "text" "Ljava/lang/String;" (.ref tx) ∧ Fld Z h a "com/example/libbuchi/libbuchi/automaton/HoaTokenizer$Token" "line" "I" (.int li)
def PrmT (s : State) (Z : State) (a : Addr) (kd : Addr) (tx : Addr) (li : Int32) (h0 : Heap) (n0 : Nat) : State → Outcome → Prop := fun U' o => ∃ v L, o = .returned v ∧ QrmT Z a kd tx li h0 n0 v U'.heap L ∧ FrameEnd s o U' L ({ frames := 1, cells := 0, slots := 0, locals := 12 } : Room).cells ({ frames := 1, cells := 0, slots := 0, locals := 12 } : Room).slots
set_option maxRecDepth 65536 in
set_option maxHeartbeats 40000000 in
theorem rmT (l : Launch) (Z : State) (a0 : Array Value) (hw : ∀ d ∈ tables_1, d.before a0 Z = true) (ws : List Jvm.Cond) (a : Addr) (kd : Addr) (tx : Addr) (li : Int32) (h0 : Heap) (n0 : Nat) (Z0 : n0 ≤ h0.size) (F_kind : Fld Z h0 a "com/example/libbuchi/libbuchi/automaton/HoaTokenizer$Token" "kind" "Lcom/example/libbuchi/libbuchi/automaton/HoaTokenizer$Kind;" .null) (F_text : Fld Z h0 a "com/example/libbuchi/libbuchi/automaton/HoaTokenizer$Token" "text" "Ljava/lang/String;" .null) (F_line : Fld Z h0 a "com/example/libbuchi/libbuchi/automaton/HoaTokenizer$Token" "line" "I" (.int (0 : Int32))) (Ea : Exa Z h0 a "com/example/libbuchi/libbuchi/automaton/HoaTokenizer$Token") (ga : n0 ≤ a) :
    MetFree l (⟨"com/example/libbuchi/libbuchi/automaton/HoaTokenizer$Token", "<init>", "(Lcom/example/libbuchi/libbuchi/automaton/HoaTokenizer$Kind;Ljava/lang/String;I)V"⟩ : MethodName) (head1 (Jvm.Cond.code (⟨"com/example/libbuchi/libbuchi/automaton/HoaTokenizer$Token", "<init>", "(Lcom/example/libbuchi/libbuchi/automaton/HoaTokenizer$Kind;Ljava/lang/String;I)V"⟩ : MethodName) prog_10_method_1_code 4 none :: ws) ({ frames := 1, cells := 0, slots := 0, locals := 12 } : Room)) (fun aa U => aa = #[(.ref a), (.ref kd), (.ref tx), (.int li)] ∧ Z.Warmed39 U.vm ∧ U.heap = h0) (fun _ _ _ _ _ => True) (fun _ U o U' => ∃ v L, o = .returned v ∧ QrmT Z a kd tx li h0 n0 v U'.heap L ∧ FrameEnd U o U' L ({ frames := 1, cells := 0, slots := 0, locals := 12 } : Room).cells ({ frames := 1, cells := 0, slots := 0, locals := 12 } : Room).slots) := by
  refine MetFree.of_bodySF (plainFor_of_name pn_2) hisR ?_
  intro p e s m args below meth c s₁ Bd hml0 hP hK
  obtain ⟨rfl, hZ, hh⟩ := hP
  have hx := Bd.exec
  have hlk : meth.locks = false := by first | exact BodyLoose.notSynchronized Bd | exact Body.notSynchronized Bd
  have hby := Bd.bytes
  have hml : c.maxLocals = 4 := hml0
  have hown : s.vm.findClass "com/example/libbuchi/libbuchi/automaton/HoaTokenizer$Token" = some m.cls := findClass_of_methodNamed Bd.named
  have hnm := (name_of_methodNamed Bd.named Bd.method).1
  have X0 : Stand p l e ({ frames := 1, cells := 0, slots := 0, locals := 12 } : Room) s m #[(.ref a), (.ref kd), (.ref tx), (.int li)] below meth c s₁ [] 0 0 := Stand.of_body Bd
  have e0 : s₁.heap = h0 := by rw [← hh, Bd.state]; rfl
  have N0 := Fr.nil n0
  show Done p e below (PrmT s Z a kd tx li h0 n0) (s₁.setTop (entryFrame m #[(.ref a), (.ref kd), (.ref tx), (.int li)] 4))
  refine Done.st (B := s₁.setTop (mkF m 0 #[.val (.ref a), .val (.ref kd), .val (.ref tx), .val (.int li)] [])) (fun _ k => castTop (ef_rmT m a kd tx li) k) ?_
  refine Done.st (B := s₁.setTop (mkF m 1 #[.val (.ref a), .val (.ref kd), .val (.ref tx), .val (.int li)] [(.ref a)])) (fun _ k => XS.aloadN X0.here hx rfl (hb hby d9_0) rfl rfl k) ?_
  obtain ⟨T1, X1, e1, st1⟩ := initO X0 hx hZ hown (hw _ (List.mem_of_getElem? (i := 50) rfl)) (hw _ (List.mem_of_getElem? (i := 17) rfl)) (hw _ (List.mem_of_getElem? (i := 18) rfl)) e0 (g := (mkF m 1 #[.val (.ref a), .val (.ref kd), .val (.ref tx), .val (.int li)] [(.ref a)])) rfl (by rw [hml]; rfl) rfl (hb hby d9_1) (by decide) (W := 0) (by show 2 * 0 + _ ≤ _; exact Nat.le_of_eq rfl) (by decide)
  refine Done.st (B := T1.setTop (mkF m 4 #[.val (.ref a), .val (.ref kd), .val (.ref tx), .val (.int li)] [])) (fun _ k => st1 _ k) ?_
  refine Done.st (B := T1.setTop (mkF m 5 #[.val (.ref a), .val (.ref kd), .val (.ref tx), .val (.int li)] [(.ref a)])) (fun _ k => XS.aloadN X1.here hx rfl (hb hby d9_4) rfl rfl k) ?_
  refine Done.st (B := T1.setTop (mkF m 6 #[.val (.ref a), .val (.ref kd), .val (.ref tx), .val (.int li)] [(.ref kd), (.ref a)])) (fun _ k => XS.aloadN X1.here hx rfl (hb hby d9_5) rfl rfl k) ?_
  obtain ⟨T2, h2, X2, e2, W2, st2⟩ := putF X1 hx hZ hown (host := "") (Or.inl (hw _ (List.mem_of_getElem? (i := 51) rfl))) Via.refl e1 F_kind Ea (Or.inr ⟨(hw _ (List.mem_of_getElem? (i := 52) rfl)), rfl, hnm⟩) (hw _ (List.mem_of_getElem? (i := 39) rfl)) (ty := (.object "com/example/libbuchi/libbuchi/automaton/HoaTokenizer$Kind")) (by decide) rfl rfl (g := (mkF m 6 #[.val (.ref a), .val (.ref kd), .val (.ref tx), .val (.int li)] [(.ref kd), (.ref a)])) rfl rfl (hb hby d9_6)
  have F2 := Fld.same W2 F_kind
  have N2 := Fr.snoc X2 N0 ga
  have Z2 : n0 ≤ h2.size := Nat.le_trans Z0 (Keep.of_wr W2).1
  have KK2 : Keep h0 h2 [a] := ((Keep.refl h0 [a])).wr W2 (Or.inl (List.mem_of_getElem? (i := 0) rfl))
  refine Done.st (B := T2.setTop (mkF m 9 #[.val (.ref a), .val (.ref kd), .val (.ref tx), .val (.int li)] [])) (fun _ k => st2 _ k) ?_
  refine Done.st (B := T2.setTop (mkF m 10 #[.val (.ref a), .val (.ref kd), .val (.ref tx), .val (.int li)] [(.ref a)])) (fun _ k => XS.aloadN X2.here hx rfl (hb hby d9_9) rfl rfl k) ?_
  refine Done.st (B := T2.setTop (mkF m 11 #[.val (.ref a), .val (.ref kd), .val (.ref tx), .val (.int li)] [(.ref tx), (.ref a)])) (fun _ k => XS.aloadN X2.here hx rfl (hb hby d9_10) rfl rfl k) ?_
  have c3 := (Exa.wr W2 Ea)
  have c4 := (Fld.other W2 F_text (Or.inr (slot_ne (Or.inr (hw _ (List.mem_of_getElem? (i := 54) rfl))) (Or.inr (hw _ (List.mem_of_getElem? (i := 52) rfl))) (by decide) (t := (.object "java/lang/String")) (t' := (.object "com/example/libbuchi/libbuchi/automaton/HoaTokenizer$Kind")) (by decide) (by decide))))
  obtain ⟨T5, h5, X5, e5, W5, st5⟩ := putF X2 hx hZ hown (host := "") (Or.inl (hw _ (List.mem_of_getElem? (i := 53) rfl))) Via.refl e2 c4 c3 (Or.inr ⟨(hw _ (List.mem_of_getElem? (i := 54) rfl)), rfl, hnm⟩) (hw _ (List.mem_of_getElem? (i := 39) rfl)) (ty := (.object "java/lang/String")) (by decide) rfl rfl (g := (mkF m 11 #[.val (.ref a), .val (.ref kd), .val (.ref tx), .val (.int li)] [(.ref tx), (.ref a)])) rfl rfl (hb hby d9_11)
  have F5 := Fld.same W5 c4
  have N5 := Fr.snoc X5 N2 ga
  have Z5 : n0 ≤ h5.size := Nat.le_trans Z2 (Keep.of_wr W5).1
  have KK5 : Keep h0 h5 [a] := (KK2).wr W5 (Or.inl (List.mem_of_getElem? (i := 0) rfl))
  refine Done.st (B := T5.setTop (mkF m 14 #[.val (.ref a), .val (.ref kd), .val (.ref tx), .val (.int li)] [])) (fun _ k => st5 _ k) ?_
  refine Done.st (B := T5.setTop (mkF m 15 #[.val (.ref a), .val (.ref kd), .val (.ref tx), .val (.int li)] [(.ref a)])) (fun _ k => XS.aloadN X5.here hx rfl (hb hby d9_14) rfl rfl k) ?_
  refine Done.st (B := T5.setTop (mkF m 16 #[.val (.ref a), .val (.ref kd), .val (.ref tx), .val (.int li)] [(.int li), (.ref a)])) (fun _ k => XS.iloadN X5.here hx rfl (hb hby d9_15) rfl k) ?_
  have c6 := (Exa.wr W5 c3)
  have c7 := (Fld.other W5 (Fld.other W2 F_line (Or.inr (slot_ne (Or.inr (hw _ (List.mem_of_getElem? (i := 56) rfl))) (Or.inr (hw _ (List.mem_of_getElem? (i := 52) rfl))) (by decide) (t := .int) (t' := (.object "com/example/libbuchi/libbuchi/automaton/HoaTokenizer$Kind")) (by decide) (by decide)))) (Or.inr (slot_ne (Or.inr (hw _ (List.mem_of_getElem? (i := 56) rfl))) (Or.inr (hw _ (List.mem_of_getElem? (i := 54) rfl))) (by decide) (t := .int) (t' := (.object "java/lang/String")) (by decide) (by decide))))
  obtain ⟨T8, h8, X8, e8, W8, st8⟩ := putF X5 hx hZ hown (host := "") (Or.inl (hw _ (List.mem_of_getElem? (i := 55) rfl))) Via.refl e5 c7 c6 (Or.inr ⟨(hw _ (List.mem_of_getElem? (i := 56) rfl)), rfl, hnm⟩) (hw _ (List.mem_of_getElem? (i := 39) rfl)) (ty := .int) (by decide) rfl rfl (g := (mkF m 16 #[.val (.ref a), .val (.ref kd), .val (.ref tx), .val (.int li)] [(.int li), (.ref a)])) rfl rfl (hb hby d9_16)
  have F8 := Fld.same W8 c7
  have N8 := Fr.snoc X8 N5 ga
  have Z8 : n0 ≤ h8.size := Nat.le_trans Z5 (Keep.of_wr W8).1
  have KK8 : Keep h0 h8 [a] := (KK5).wr W8 (Or.inl (List.mem_of_getElem? (i := 0) rfl))
  refine Done.st (B := T8.setTop (mkF m 19 #[.val (.ref a), .val (.ref kd), .val (.ref tx), .val (.int li)] [])) (fun _ k => st8 _ k) ?_
  obtain ⟨fs, hr, hrun, hended, hW, hsame⟩ := X8.leave (v := none) (hlocks := hlk) (fun _ => rfl)
  have c10 := (Exa.wr W8 c6)
  have c11 := (Fld.other W8 (Fld.other W5 F2 (Or.inr (slot_ne (Or.inr (hw _ (List.mem_of_getElem? (i := 52) rfl))) (Or.inr (hw _ (List.mem_of_getElem? (i := 54) rfl))) (by decide) (t := (.object "com/example/libbuchi/libbuchi/automaton/HoaTokenizer$Kind")) (t' := (.object "java/lang/String")) (by decide) (by decide)))) (Or.inr (slot_ne (Or.inr (hw _ (List.mem_of_getElem? (i := 52) rfl))) (Or.inr (hw _ (List.mem_of_getElem? (i := 56) rfl))) (by decide) (t := (.object "com/example/libbuchi/libbuchi/automaton/HoaTokenizer$Kind")) (t' := .int) (by decide) (by decide))))
  have c12 := (Fld.other W8 F5 (Or.inr (slot_ne (Or.inr (hw _ (List.mem_of_getElem? (i := 54) rfl))) (Or.inr (hw _ (List.mem_of_getElem? (i := 56) rfl))) (by decide) (t := (.object "java/lang/String")) (t' := .int) (by decide) (by decide))))
  refine Done.fin (X8.returnOut hx Bd.returns (hb hby d9_19) hr) hrun hended ⟨_, _, rfl, ?_, ⟨_, rfl⟩, hW, hsame.mono (by decide) (by decide)⟩
  show QrmT Z a kd tx li h0 n0 _ T8.heap _
  rw [e8]
  exact ⟨rfl, N8, KK8, c10, c11, c12, F8⟩
theorem ef_rmEN (m : MethodId) (a : Addr) : entryFrame m #[(.ref a), .null] 3 = mkF m 0 #[.val (.ref a), .val .null, .unset] [] := by first | (simp [entryFrame, mkF, argsToLocals, Value.category]; done) | rfl
def QrmEN (Z : State) (a : Addr) (h0 : Heap) (n0 : Nat) (v : Option Value) (h : Heap) (L : List Loc) : Prop := v = some (.int 0) ∧ Fr n0 L ∧ h = h0
def PrmEN (s : State) (Z : State) (a : Addr) (h0 : Heap) (n0 : Nat) : State → Outcome → Prop := fun U' o => ∃ v L, o = .returned v ∧ QrmEN Z a h0 n0 v U'.heap L ∧ FrameEnd s o U' L ({ frames := 0, cells := 0, slots := 0, locals := 0 } : Room).cells ({ frames := 0, cells := 0, slots := 0, locals := 0 } : Room).slots
set_option maxRecDepth 65536 in
set_option maxHeartbeats 40000000 in
theorem rmEN (l : Launch) (Z : State) (a0 : Array Value) (hw : ∀ d ∈ tables_1, d.before a0 Z = true) (ws : List Jvm.Cond) (a : Addr) (h0 : Heap) (n0 : Nat) (Z0 : n0 ≤ h0.size) :
    MetFree l (⟨"java/lang/String", "equals", "(Ljava/lang/Object;)Z"⟩ : MethodName) (head1 (Jvm.Cond.code (⟨"java/lang/String", "equals", "(Ljava/lang/Object;)Z"⟩ : MethodName) jdk_42_method_66_code 3 (some .boolean) :: ws) ({ frames := 0, cells := 0, slots := 0, locals := 0 } : Room)) (fun aa U => aa = #[(.ref a), .null] ∧ Z.Warmed39 U.vm ∧ U.heap = h0) (fun _ _ _ _ _ => True) (fun _ U o U' => ∃ v L, o = .returned v ∧ QrmEN Z a h0 n0 v U'.heap L ∧ FrameEnd U o U' L ({ frames := 0, cells := 0, slots := 0, locals := 0 } : Room).cells ({ frames := 0, cells := 0, slots := 0, locals := 0 } : Room).slots) := by
  refine MetFree.of_bodySF (plainFor_of_name pn_0) hisR ?_
  intro p e s m args below meth c s₁ Bd hml0 hP hK
  obtain ⟨rfl, hZ, hh⟩ := hP
  have hx := Bd.exec
  have hlk : meth.locks = false := by first | exact BodyLoose.notSynchronized Bd | exact Body.notSynchronized Bd
  have hby := Bd.bytes
  have hml : c.maxLocals = 3 := hml0
  have hown : s.vm.findClass "java/lang/String" = some m.cls := findClass_of_methodNamed Bd.named
  have hnm := (name_of_methodNamed Bd.named Bd.method).1
  have X0 : Stand p l e ({ frames := 0, cells := 0, slots := 0, locals := 0 } : Room) s m #[(.ref a), .null] below meth c s₁ [] 0 0 := Stand.of_body Bd
  have e0 : s₁.heap = h0 := by rw [← hh, Bd.state]; rfl
  have N0 := Fr.nil n0
  show Done p e below (PrmEN s Z a h0 n0) (s₁.setTop (entryFrame m #[(.ref a), .null] 3))
  refine Done.st (B := s₁.setTop (mkF m 0 #[.val (.ref a), .val .null, .unset] [])) (fun _ k => castTop (ef_rmEN m a) k) ?_
  refine Done.st (B := s₁.setTop (mkF m 1 #[.val (.ref a), .val .null, .unset] [(.ref a)])) (fun _ k => XS.aloadN X0.here hx rfl (hb hby d11_0) rfl rfl k) ?_
  refine Done.st (B := s₁.setTop (mkF m 2 #[.val (.ref a), .val .null, .unset] [.null, (.ref a)])) (fun _ k => XS.aloadN X0.here hx rfl (hb hby d11_1) rfl rfl k) ?_
  refine Done.st (B := s₁.setTop (mkF m 7 #[.val (.ref a), .val .null, .unset] [])) (fun _ k => Jvm.RoadKit.acmp (g := (mkF m 2 #[.val (.ref a), .val .null, .unset] [.null, (.ref a)])) X0 hx rfl rfl rfl (pc0 := 2) (pc' := 7) (same := false) rfl (hb hby d11_2) rfl (decide_eq_false nofun) (by decide) (by decide) k) ?_
  refine Done.st (B := s₁.setTop (mkF m 8 #[.val (.ref a), .val .null, .unset] [.null])) (fun _ k => XS.aloadN X0.here hx rfl (hb hby d11_7) rfl rfl k) ?_
  refine Done.st (B := s₁.setTop (mkF m 11 #[.val (.ref a), .val .null, .unset] [(.int (0 : Int32))])) (fun _ k => X0.instanceofNull hx (g := (mkF m 8 #[.val (.ref a), .val .null, .unset] [.null])) rfl rfl (hb hby d11_8) _ k) ?_
  refine Done.st (B := s₁.setTop (mkF m 54 #[.val (.ref a), .val .null, .unset] [])) (fun _ k => XS.ifYes X0.here hx rfl (pc0 := 11) (pc' := 54) rfl (hb hby d11_11) rfl ((if0 _ _).trans (teq (rfl : (0 : Int32) = (0 : Int32))).1) (by decide) (by decide) k) ?_
  refine Done.st (B := s₁.setTop (mkF m 55 #[.val (.ref a), .val .null, .unset] [(.int (0 : Int32))])) (fun _ k => XS.iconst X0.here hx rfl (hb hby d11_54) k) ?_
  obtain ⟨fs, hr, hrun, hended, hW, hsame⟩ := X0.leave (v := some (.int (0 : Int32))) (hlocks := hlk) (fun h => by rw [Bd.returns] at h; cases h)
  refine Done.fin (retN X0 hx (t := .boolean) Bd.returns (by simp) (hb hby d11_55) hr) hrun hended ⟨_, _, rfl, ?_, ⟨_, rfl⟩, hW, hsame.mono (by decide) (by decide)⟩
  show QrmEN Z a h0 n0 _ s₁.heap _
  rw [e0]
  exact ⟨rfl, N0, rfl⟩
theorem ef_rmIN (m : MethodId) (a : Addr) (k2 : Addr) : entryFrame m #[(.ref a), (.ref k2), .null] 3 = mkF m 0 #[.val (.ref a), .val (.ref k2), .val .null] [] := by first | (simp [entryFrame, mkF, argsToLocals, Value.category]; done) | rfl
def QrmIN (Z : State) (a : Addr) (k2 : Addr) (kd : Addr) (tx : Addr) (cs : List Int32) (h0 : Heap) (n0 : Nat) (v : Option Value) (h : Heap) (L : List Loc) : Prop := v = some (.int 0) ∧ Fr n0 L ∧ h = h0
def PrmIN (s : State) (Z : State) (a : Addr) (k2 : Addr) (kd : Addr) (tx : Addr) (cs : List Int32) (h0 : Heap) (n0 : Nat) : State → Outcome → Prop := fun U' o => ∃ v L, o = .returned v ∧ QrmIN Z a k2 kd tx cs h0 n0 v U'.heap L ∧ FrameEnd s o U' L ({ frames := 1, cells := 0, slots := 0, locals := 14 } : Room).cells ({ frames := 1, cells := 0, slots := 0, locals := 14 } : Room).slots
set_option maxRecDepth 65536 in
set_option maxHeartbeats 40000000 in
theorem rmIN (l : Launch) (Z : State) (a0 : Array Value) (hw : ∀ d ∈ tables_1, d.before a0 Z = true) (ws : List Jvm.Cond) (a : Addr) (k2 : Addr) (kd : Addr) (tx : Addr) (cs : List Int32) (h0 : Heap) (n0 : Nat) (Z0 : n0 ≤ h0.size) (F_kind : Fld Z h0 a "com/example/libbuchi/libbuchi/automaton/HoaTokenizer$Token" "kind" "Lcom/example/libbuchi/libbuchi/automaton/HoaTokenizer$Kind;" (.ref kd)) (F_text : Fld Z h0 a "com/example/libbuchi/libbuchi/automaton/HoaTokenizer$Token" "text" "Ljava/lang/String;" (.ref tx)) (T_x : Str Z h0 tx cs) :
    MetFree l (⟨"com/example/libbuchi/libbuchi/automaton/HoaTokenizer$Token", "is", "(Lcom/example/libbuchi/libbuchi/automaton/HoaTokenizer$Kind;Ljava/lang/String;)Z"⟩ : MethodName) (head1 (Jvm.Cond.code (⟨"com/example/libbuchi/libbuchi/automaton/HoaTokenizer$Token", "is", "(Lcom/example/libbuchi/libbuchi/automaton/HoaTokenizer$Kind;Ljava/lang/String;)Z"⟩ : MethodName) prog_10_method_5_code 3 (some .boolean) :: ws) ({ frames := 1, cells := 0, slots := 0, locals := 14 } : Room)) (fun aa U => aa = #[(.ref a), (.ref k2), .null] ∧ Z.Warmed39 U.vm ∧ U.heap = h0) (fun _ _ _ _ _ => True) (fun _ U o U' => ∃ v L, o = .returned v ∧ QrmIN Z a k2 kd tx cs h0 n0 v U'.heap L ∧ FrameEnd U o U' L ({ frames := 1, cells := 0, slots := 0, locals := 14 } : Room).cells ({ frames := 1, cells := 0, slots := 0, locals := 14 } : Room).slots) := by
  refine MetFree.of_bodySF (plainFor_of_name pn_2) hisR ?_
  intro p e s m args below meth c s₁ Bd hml0 hP hK
  obtain ⟨rfl, hZ, hh⟩ := hP
  have hx := Bd.exec
  have hlk : meth.locks = false := by first | exact BodyLoose.notSynchronized Bd | exact Body.notSynchronized Bd
  have hby := Bd.bytes
  have hml : c.maxLocals = 3 := hml0
  have hown : s.vm.findClass "com/example/libbuchi/libbuchi/automaton/HoaTokenizer$Token" = some m.cls := findClass_of_methodNamed Bd.named
  have hnm := (name_of_methodNamed Bd.named Bd.method).1
  have X0 : Stand p l e ({ frames := 1, cells := 0, slots := 0, locals := 14 } : Room) s m #[(.ref a), (.ref k2), .null] below meth c s₁ [] 0 0 := Stand.of_body Bd
  have e0 : s₁.heap = h0 := by rw [← hh, Bd.state]; rfl
  have N0 := Fr.nil n0
  show Done p e below (PrmIN s Z a k2 kd tx cs h0 n0) (s₁.setTop (entryFrame m #[(.ref a), (.ref k2), .null] 3))
  refine Done.st (B := s₁.setTop (mkF m 0 #[.val (.ref a), .val (.ref k2), .val .null] [])) (fun _ k => castTop (ef_rmIN m a k2) k) ?_
  have Etx := Str.exa T_x
  refine Done.st (B := s₁.setTop (mkF m 1 #[.val (.ref a), .val (.ref k2), .val .null] [(.ref a)])) (fun _ k => XS.aloadN X0.here hx rfl (hb hby d10_0) rfl rfl k) ?_
  obtain ⟨T1, X1, e1, st1⟩ := getF X0 hx hZ hown (host := "") (Or.inl (hw _ (List.mem_of_getElem? (i := 51) rfl))) Via.refl e0 F_kind (g := (mkF m 1 #[.val (.ref a), .val (.ref k2), .val .null] [(.ref a)])) rfl rfl (hb hby d10_1)
  refine Done.st (B := T1.setTop (mkF m 4 #[.val (.ref a), .val (.ref k2), .val .null] [(.ref kd)])) (fun _ k => st1 _ k) ?_
  refine Done.st (B := T1.setTop (mkF m 5 #[.val (.ref a), .val (.ref k2), .val .null] [(.ref k2), (.ref kd)])) (fun _ k => XS.aloadN X1.here hx rfl (hb hby d10_4) rfl rfl k) ?_
  by_cases ha5 : kd = k2
  · refine Done.st (B := T1.setTop (mkF m 8 #[.val (.ref a), .val (.ref k2), .val .null] [])) (fun _ k => Jvm.RoadKit.acmp (g := (mkF m 5 #[.val (.ref a), .val (.ref k2), .val .null] [(.ref k2), (.ref kd)])) X1 hx rfl rfl rfl (pc0 := 5) (pc' := 8) (same := true) rfl (hb hby d10_5) rfl (decide_eq_true (congrArg Value.ref ha5)) (by decide) (by decide) k) ?_
    refine Done.st (B := T1.setTop (mkF m 9 #[.val (.ref a), .val (.ref k2), .val .null] [(.ref a)])) (fun _ k => XS.aloadN X1.here hx rfl (hb hby d10_8) rfl rfl k) ?_
    obtain ⟨T2, X2, e2, st2⟩ := getF X1 hx hZ hown (host := "") (Or.inl (hw _ (List.mem_of_getElem? (i := 53) rfl))) Via.refl e1 F_text (g := (mkF m 9 #[.val (.ref a), .val (.ref k2), .val .null] [(.ref a)])) rfl rfl (hb hby d10_9)
    refine Done.st (B := T2.setTop (mkF m 12 #[.val (.ref a), .val (.ref k2), .val .null] [(.ref tx)])) (fun _ k => st2 _ k) ?_
    refine Done.st (B := T2.setTop (mkF m 13 #[.val (.ref a), .val (.ref k2), .val .null] [.null, (.ref tx)])) (fun _ k => XS.aloadN X2.here hx rfl (hb hby d10_12) rfl rfl k) ?_
    have Ext := Str.exa T_x
    obtain ⟨cq3, kq3, q3a, q3b, q3c⟩ := isOf hZ e2 Ext
    obtain ⟨_, _, ⟨T3, L3, k3, n3⟩, -, X3, ⟨Lc3, hQ3, l3, y3, z3⟩, st3⟩ := X2.virtualBack hx (y := (⟨"java/lang/String", "equals", "(Ljava/lang/Object;)Z"⟩ : MethodName)) (z := (⟨"java/lang/String", "equals", "(Ljava/lang/Object;)Z"⟩ : MethodName)) hown (mvT hZ (hw _ (List.mem_of_getElem? (i := 78) rfl))) (mvT hZ (hw _ (List.mem_of_getElem? (i := 79) rfl))) (notFace_of_selects (args := #[]) (mvT hZ (hw _ (List.mem_of_getElem? (i := 81) rfl)))) (mvT hZ (hw _ (List.mem_of_getElem? (i := 81) rfl))) (mvT hZ (hw _ (List.mem_of_getElem? (i := 80) rfl))) (by decide) (backOf (W := 0) (rmEN l Z a0 hw [] tx h0 n0 Z0) hZ (hw _ (List.mem_of_getElem? (i := 82) rfl)) (hw _ (List.mem_of_getElem? (i := 7) rfl)) (by decide) (by decide)) q3a q3c (g := (mkF m 13 #[.val (.ref a), .val (.ref k2), .val .null] [.null, (.ref tx)])) rfl (by rw [hml]; rfl) (Steps.refl _) (argsL := [.null]) (rest := []) (lenOf pd_2 rfl) rfl (by show 2 * 0 + _ ≤ _; exact Nat.le_of_eq rfl) (hb hby d10_13) (fun _ _ => ⟨rfl, e2, (by decide : 0 + 0 ≤ _), (by decide : 0 + 0 ≤ _)⟩)
    dsimp only [Pt.U, Pt.locs, Pt.cells, Pt.slots] at X3 l3 y3 z3 st3 hQ3
    subst l3 y3 z3
    obtain ⟨rfl, N3q, e3⟩ := hQ3
    have N3 := Fr.app N0 N3q
    refine Done.st (B := T3.setTop (mkF m 16 #[.val (.ref a), .val (.ref k2), .val .null] [(.int (0 : Int32))])) (fun _ k => st3.trans k) ?_
    refine Done.st (B := T3.setTop (mkF m 23 #[.val (.ref a), .val (.ref k2), .val .null] [])) (fun _ k => XS.ifYes X3.here hx rfl (pc0 := 16) (pc' := 23) rfl (hb hby d10_16) rfl ((if0 _ _).trans (teq (rfl : (0 : Int32) = (0 : Int32))).1) (by decide) (by decide) k) ?_
    refine Done.st (B := T3.setTop (mkF m 24 #[.val (.ref a), .val (.ref k2), .val .null] [(.int (0 : Int32))])) (fun _ k => XS.iconst X3.here hx rfl (hb hby d10_23) k) ?_
    obtain ⟨fs, hr, hrun, hended, hW, hsame⟩ := X3.leave (v := some (.int (0 : Int32))) (hlocks := hlk) (fun h => by rw [Bd.returns] at h; cases h)
    refine Done.fin (retN X3 hx (t := .boolean) Bd.returns (by simp) (hb hby d10_24) hr) hrun hended ⟨_, _, rfl, ?_, ⟨_, rfl⟩, hW, hsame.mono (by decide) (by decide)⟩
    show QrmIN Z a k2 kd tx cs h0 n0 _ T3.heap _
    rw [e3]
    exact ⟨rfl, N3, rfl⟩
  · refine Done.st (B := T1.setTop (mkF m 23 #[.val (.ref a), .val (.ref k2), .val .null] [])) (fun _ k => Jvm.RoadKit.acmp (g := (mkF m 5 #[.val (.ref a), .val (.ref k2), .val .null] [(.ref k2), (.ref kd)])) X1 hx rfl rfl rfl (pc0 := 5) (pc' := 23) (same := false) rfl (hb hby d10_5) rfl (decide_eq_false fun q => ha5 (Value.ref.inj q)) (by decide) (by decide) k) ?_
    refine Done.st (B := T1.setTop (mkF m 24 #[.val (.ref a), .val (.ref k2), .val .null] [(.int (0 : Int32))])) (fun _ k => XS.iconst X1.here hx rfl (hb hby d10_23) k) ?_
    obtain ⟨fs, hr, hrun, hended, hW, hsame⟩ := X1.leave (v := some (.int (0 : Int32))) (hlocks := hlk) (fun h => by rw [Bd.returns] at h; cases h)
    refine Done.fin (retN X1 hx (t := .boolean) Bd.returns (by simp) (hb hby d10_24) hr) hrun hended ⟨_, _, rfl, ?_, ⟨_, rfl⟩, hW, hsame.mono (by decide) (by decide)⟩
    show QrmIN Z a k2 kd tx cs h0 n0 _ T1.heap _
    rw [e1]
    exact ⟨rfl, N0, rfl⟩
theorem ef_rmIS (m : MethodId) (a : Addr) (k2 : Addr) (ex : Addr) : entryFrame m #[(.ref a), (.ref k2), (.ref ex)] 3 = mkF m 0 #[.val (.ref a), .val (.ref k2), .val (.ref ex)] [] := by first | (simp [entryFrame, mkF, argsToLocals, Value.category]; done) | rfl
def QrmIS (Z : State) (a : Addr) (k2 : Addr) (ex : Addr) (kd : Addr) (tx : Addr) (cs : List Int32) (ds : List Int32) (z : Int32) (h0 : Heap) (n0 : Nat) (v : Option Value) (h : Heap) (L : List Loc) : Prop := v = some (.int (own_is (kd = k2) (own_seq cs ds))) ∧ Fr n0 L ∧ h = h0
def PrmIS (s : State) (Z : State) (a : Addr) (k2 : Addr) (ex : Addr) (kd : Addr) (tx : Addr) (cs : List Int32) (ds : List Int32) (z : Int32) (h0 : Heap) (n0 : Nat) : State → Outcome → Prop := fun U' o => ∃ v L, o = .returned v ∧ QrmIS Z a k2 ex kd tx cs ds z h0 n0 v U'.heap L ∧ FrameEnd s o U' L ({ frames := 2, cells := 0, slots := 0, locals := 28 } : Room).cells ({ frames := 2, cells := 0, slots := 0, locals := 28 } : Room).slots
set_option maxRecDepth 65536 in
set_option maxHeartbeats 40000000 in
theorem rmIS (l : Launch) (Z : State) (a0 : Array Value) (hw : ∀ d ∈ tables_1, d.before a0 Z = true) (ws : List Jvm.Cond) (a : Addr) (k2 : Addr) (ex : Addr) (kd : Addr) (tx : Addr) (cs : List Int32) (ds : List Int32) (z : Int32) (h0 : Heap) (n0 : Nat) (Z0 : n0 ≤ h0.size) (F_kind : Fld Z h0 a "com/example/libbuchi/libbuchi/automaton/HoaTokenizer$Token" "kind" "Lcom/example/libbuchi/libbuchi/automaton/HoaTokenizer$Kind;" (.ref kd)) (F_text : Fld Z h0 a "com/example/libbuchi/libbuchi/automaton/HoaTokenizer$Token" "text" "Ljava/lang/String;" (.ref tx)) (T_x : Str Z h0 tx cs) (T_e : Str Z h0 ex ds) (hbc : ∀ c ∈ cs, ¬ c < 0 ∧ ¬ (255 : Int32) < c) (hbd : ∀ c ∈ ds, ¬ c < 0 ∧ ¬ (255 : Int32) < c) (hl_cs : cs.length ≤ 3) (hl_ds : ds.length ≤ 3) (S_z : Sta Z h0 "java/lang/String" "COMPACT_STRINGS" "Z" (.int z)) (hz : ¬ z = 0) :
    MetFree l (⟨"com/example/libbuchi/libbuchi/automaton/HoaTokenizer$Token", "is", "(Lcom/example/libbuchi/libbuchi/automaton/HoaTokenizer$Kind;Ljava/lang/String;)Z"⟩ : MethodName) (head1 (Jvm.Cond.code (⟨"com/example/libbuchi/libbuchi/automaton/HoaTokenizer$Token", "is", "(Lcom/example/libbuchi/libbuchi/automaton/HoaTokenizer$Kind;Ljava/lang/String;)Z"⟩ : MethodName) prog_10_method_5_code 3 (some .boolean) :: ws) ({ frames := 2, cells := 0, slots := 0, locals := 28 } : Room)) (fun aa U => aa = #[(.ref a), (.ref k2), (.ref ex)] ∧ Z.Warmed39 U.vm ∧ U.heap = h0) (fun _ _ _ _ _ => True) (fun _ U o U' => ∃ v L, o = .returned v ∧ QrmIS Z a k2 ex kd tx cs ds z h0 n0 v U'.heap L ∧ FrameEnd U o U' L ({ frames := 2, cells := 0, slots := 0, locals := 28 } : Room).cells ({ frames := 2, cells := 0, slots := 0, locals := 28 } : Room).slots) := by
  refine MetFree.of_bodySF (plainFor_of_name pn_2) hisR ?_
  intro p e s m args below meth c s₁ Bd hml0 hP hK
  obtain ⟨rfl, hZ, hh⟩ := hP
  have hx := Bd.exec
  have hlk : meth.locks = false := by first | exact BodyLoose.notSynchronized Bd | exact Body.notSynchronized Bd
  have hby := Bd.bytes
  have hml : c.maxLocals = 3 := hml0
  have hown : s.vm.findClass "com/example/libbuchi/libbuchi/automaton/HoaTokenizer$Token" = some m.cls := findClass_of_methodNamed Bd.named
  have hnm := (name_of_methodNamed Bd.named Bd.method).1
  have X0 : Stand p l e ({ frames := 2, cells := 0, slots := 0, locals := 28 } : Room) s m #[(.ref a), (.ref k2), (.ref ex)] below meth c s₁ [] 0 0 := Stand.of_body Bd
  have e0 : s₁.heap = h0 := by rw [← hh, Bd.state]; rfl
  have N0 := Fr.nil n0
  show Done p e below (PrmIS s Z a k2 ex kd tx cs ds z h0 n0) (s₁.setTop (entryFrame m #[(.ref a), (.ref k2), (.ref ex)] 3))
  refine Done.st (B := s₁.setTop (mkF m 0 #[.val (.ref a), .val (.ref k2), .val (.ref ex)] [])) (fun _ k => castTop (ef_rmIS m a k2 ex) k) ?_
  have Etx := Str.exa T_x
  refine Done.st (B := s₁.setTop (mkF m 1 #[.val (.ref a), .val (.ref k2), .val (.ref ex)] [(.ref a)])) (fun _ k => XS.aloadN X0.here hx rfl (hb hby d10_0) rfl rfl k) ?_
  obtain ⟨T1, X1, e1, st1⟩ := getF X0 hx hZ hown (host := "") (Or.inl (hw _ (List.mem_of_getElem? (i := 51) rfl))) Via.refl e0 F_kind (g := (mkF m 1 #[.val (.ref a), .val (.ref k2), .val (.ref ex)] [(.ref a)])) rfl rfl (hb hby d10_1)
  refine Done.st (B := T1.setTop (mkF m 4 #[.val (.ref a), .val (.ref k2), .val (.ref ex)] [(.ref kd)])) (fun _ k => st1 _ k) ?_
  refine Done.st (B := T1.setTop (mkF m 5 #[.val (.ref a), .val (.ref k2), .val (.ref ex)] [(.ref k2), (.ref kd)])) (fun _ k => XS.aloadN X1.here hx rfl (hb hby d10_4) rfl rfl k) ?_
  by_cases ha5 : kd = k2
  · refine Done.st (B := T1.setTop (mkF m 8 #[.val (.ref a), .val (.ref k2), .val (.ref ex)] [])) (fun _ k => Jvm.RoadKit.acmp (g := (mkF m 5 #[.val (.ref a), .val (.ref k2), .val (.ref ex)] [(.ref k2), (.ref kd)])) X1 hx rfl rfl rfl (pc0 := 5) (pc' := 8) (same := true) rfl (hb hby d10_5) rfl (decide_eq_true (congrArg Value.ref ha5)) (by decide) (by decide) k) ?_
    refine Done.st (B := T1.setTop (mkF m 9 #[.val (.ref a), .val (.ref k2), .val (.ref ex)] [(.ref a)])) (fun _ k => XS.aloadN X1.here hx rfl (hb hby d10_8) rfl rfl k) ?_
    obtain ⟨T2, X2, e2, st2⟩ := getF X1 hx hZ hown (host := "") (Or.inl (hw _ (List.mem_of_getElem? (i := 53) rfl))) Via.refl e1 F_text (g := (mkF m 9 #[.val (.ref a), .val (.ref k2), .val (.ref ex)] [(.ref a)])) rfl rfl (hb hby d10_9)
    refine Done.st (B := T2.setTop (mkF m 12 #[.val (.ref a), .val (.ref k2), .val (.ref ex)] [(.ref tx)])) (fun _ k => st2 _ k) ?_
    refine Done.st (B := T2.setTop (mkF m 13 #[.val (.ref a), .val (.ref k2), .val (.ref ex)] [(.ref ex), (.ref tx)])) (fun _ k => XS.aloadN X2.here hx rfl (hb hby d10_12) rfl rfl k) ?_
    obtain ⟨tx3, kx3, Ex3, Cx3, Vx3, Ax3⟩ := id T_x
    obtain ⟨ty3, ky3, Ey3, Cy3, Vy3, Ay3⟩ := id T_e
    obtain ⟨cq4, kq4, q4a, q4b, q4c⟩ := isOf hZ e2 Ex3
    obtain ⟨_, _, ⟨T4, L4, k4, n4⟩, -, X4, ⟨Lc4, hQ4, l4, y4, z4⟩, st4⟩ := X2.virtualBack hx (y := (⟨"java/lang/String", "equals", "(Ljava/lang/Object;)Z"⟩ : MethodName)) (z := (⟨"java/lang/String", "equals", "(Ljava/lang/Object;)Z"⟩ : MethodName)) hown (mvT hZ (hw _ (List.mem_of_getElem? (i := 78) rfl))) (mvT hZ (hw _ (List.mem_of_getElem? (i := 79) rfl))) (notFace_of_selects (args := #[]) (mvT hZ (hw _ (List.mem_of_getElem? (i := 81) rfl)))) (mvT hZ (hw _ (List.mem_of_getElem? (i := 81) rfl))) (mvT hZ (hw _ (List.mem_of_getElem? (i := 80) rfl))) (by decide) (StrChars.Road.eqW (W := 0) hZ (own_weq hw) (kI := 4) (hw _ (List.mem_of_getElem? (i := 6) rfl)) Ex3 Vx3 Cx3 Ax3 (StrChars.Road.codOf rfl (fun c hc => (hbc c hc).2)) (own_up hbc) (own_l4 hl_cs) Ey3 Vy3 Cy3 Ay3 (StrChars.Road.codOf rfl (fun c hc => (hbd c hc).2)) (own_up hbd) (own_l4 hl_ds) S_z hz (by decide) (by decide)) q4a q4c (g := (mkF m 13 #[.val (.ref a), .val (.ref k2), .val (.ref ex)] [(.ref ex), (.ref tx)])) rfl (by rw [hml]; rfl) (Steps.refl _) (argsL := [(.ref ex)]) (rest := []) (lenOf pd_2 rfl) rfl (by show 2 * 0 + _ ≤ _; exact Nat.le_of_eq rfl) (hb hby d10_13) (fun _ _ => ⟨rfl, e2, (by decide : 0 + 0 ≤ _), (by decide : 0 + 0 ≤ _)⟩)
    dsimp only [Pt.U, Pt.locs, Pt.cells, Pt.slots] at X4 l4 y4 z4 st4 hQ4
    subst l4 y4 z4
    obtain ⟨hv4, rfl, e4⟩ := hQ4
    have N4 := Fr.app N0 (Fr.nil n0)
    obtain rfl := own_seqv hv4
    refine Done.st (B := T4.setTop (mkF m 16 #[.val (.ref a), .val (.ref k2), .val (.ref ex)] [(.int (own_seq cs ds))])) (fun _ k => st4.trans k) ?_
    by_cases hc16 : (own_seq cs ds) = (0 : Int32)
    · refine Done.st (B := T4.setTop (mkF m 23 #[.val (.ref a), .val (.ref k2), .val (.ref ex)] [])) (fun _ k => XS.ifYes X4.here hx rfl (pc0 := 16) (pc' := 23) rfl (hb hby d10_16) rfl ((if0 _ _).trans (teq hc16).1) (by decide) (by decide) k) ?_
      refine Done.st (B := T4.setTop (mkF m 24 #[.val (.ref a), .val (.ref k2), .val (.ref ex)] [(.int (0 : Int32))])) (fun _ k => XS.iconst X4.here hx rfl (hb hby d10_23) k) ?_
      obtain ⟨fs, hr, hrun, hended, hW, hsame⟩ := X4.leave (v := some (.int (0 : Int32))) (hlocks := hlk) (fun h => by rw [Bd.returns] at h; cases h)
      refine Done.fin (retN X4 hx (t := .boolean) Bd.returns (by simp) (hb hby d10_24) hr) hrun hended ⟨_, _, rfl, ?_, ⟨_, rfl⟩, hW, hsame.mono (by decide) (by decide)⟩
      show QrmIS Z a k2 ex kd tx cs ds z h0 n0 _ T4.heap _
      rw [e4]
      exact ⟨by simp [own_is, own_seq01, ha5, hc16], N4, rfl⟩
    · refine Done.st (B := T4.setTop (mkF m 19 #[.val (.ref a), .val (.ref k2), .val (.ref ex)] [])) (fun _ k => XS.ifNo X4.here hx rfl (hb hby d10_16) rfl ((if0 _ _).trans (feq hc16).1) k) ?_
      refine Done.st (B := T4.setTop (mkF m 20 #[.val (.ref a), .val (.ref k2), .val (.ref ex)] [(.int (1 : Int32))])) (fun _ k => XS.iconst X4.here hx rfl (hb hby d10_19) k) ?_
      refine Done.st (B := T4.setTop (mkF m 24 #[.val (.ref a), .val (.ref k2), .val (.ref ex)] [(.int (1 : Int32))])) (fun _ k => XS.goto X4.here hx rfl (pc0 := 20) (pc' := 24) rfl (hb hby d10_20) (by decide) (by decide) k) ?_
      obtain ⟨fs, hr, hrun, hended, hW, hsame⟩ := X4.leave (v := some (.int (1 : Int32))) (hlocks := hlk) (fun h => by rw [Bd.returns] at h; cases h)
      refine Done.fin (retN X4 hx (t := .boolean) Bd.returns (by simp) (hb hby d10_24) hr) hrun hended ⟨_, _, rfl, ?_, ⟨_, rfl⟩, hW, hsame.mono (by decide) (by decide)⟩
      show QrmIS Z a k2 ex kd tx cs ds z h0 n0 _ T4.heap _
      rw [e4]
      exact ⟨by rw [own_is, if_pos ha5, own_seq1 hc16], N4, rfl⟩
  · refine Done.st (B := T1.setTop (mkF m 23 #[.val (.ref a), .val (.ref k2), .val (.ref ex)] [])) (fun _ k => Jvm.RoadKit.acmp (g := (mkF m 5 #[.val (.ref a), .val (.ref k2), .val (.ref ex)] [(.ref k2), (.ref kd)])) X1 hx rfl rfl rfl (pc0 := 5) (pc' := 23) (same := false) rfl (hb hby d10_5) rfl (decide_eq_false fun q => ha5 (Value.ref.inj q)) (by decide) (by decide) k) ?_
    refine Done.st (B := T1.setTop (mkF m 24 #[.val (.ref a), .val (.ref k2), .val (.ref ex)] [(.int (0 : Int32))])) (fun _ k => XS.iconst X1.here hx rfl (hb hby d10_23) k) ?_
    obtain ⟨fs, hr, hrun, hended, hW, hsame⟩ := X1.leave (v := some (.int (0 : Int32))) (hlocks := hlk) (fun h => by rw [Bd.returns] at h; cases h)
    refine Done.fin (retN X1 hx (t := .boolean) Bd.returns (by simp) (hb hby d10_24) hr) hrun hended ⟨_, _, rfl, ?_, ⟨_, rfl⟩, hW, hsame.mono (by decide) (by decide)⟩
    show QrmIS Z a k2 ex kd tx cs ds z h0 n0 _ T1.heap _
    rw [e1]
    exact ⟨by simp [own_is, own_seq01, ha5], N0, rfl⟩
theorem ef_rm0 (m : MethodId) (x0 : Int32) (x1 : Int32) (x2 : Int32) (x3 : Int32) (x4 : Int32) (x5 : Int32) : entryFrame m #[(.int x0), (.int x1), (.int x2), (.int x3), (.int x4), (.int x5)] maxLocals = mkF m 0 #[.val (.int x0), .val (.int x1), .val (.int x2), .val (.int x3), .val (.int x4), .val (.int x5), .unset, .unset, .unset, .unset, .unset, .unset, .unset, .unset, .unset, .unset, .unset, .unset, .unset, .unset, .unset, .unset] [] := by first | (simp [entryFrame, mkF, argsToLocals, Value.category, maxLocals]; done) | rfl
def Qrm0 (Z : State) (x0 : Int32) (x1 : Int32) (x2 : Int32) (x3 : Int32) (x4 : Int32) (x5 : Int32) (w_INTEGER : Addr) (w_IDENTIFIER : Addr) (w_PUNCTUATION : Addr) (w_END : Addr) (w_ALIAS : Addr) (w_BODY : Addr) (w_ABORT : Addr) (w_HEADER : Addr) (w_STRING : Addr) (w_EOF : Addr) (z : Int32) (h0 : Heap) (n0 : Nat) (v : Option Value) (h : Heap) (L : List Loc) : Prop := v = some (.int 1) ∧ Fr n0 L
def Prm0 (s : State) (Z : State) (x0 : Int32) (x1 : Int32) (x2 : Int32) (x3 : Int32) (x4 : Int32) (x5 : Int32) (w_INTEGER : Addr) (w_IDENTIFIER : Addr) (w_PUNCTUATION : Addr) (w_END : Addr) (w_ALIAS : Addr) (w_BODY : Addr) (w_ABORT : Addr) (w_HEADER : Addr) (w_STRING : Addr) (w_EOF : Addr) (z : Int32) (h0 : Heap) (n0 : Nat) : State → Outcome → Prop := fun U' o => ∃ v L, o = .returned v ∧ Qrm0 Z x0 x1 x2 x3 x4 x5 w_INTEGER w_IDENTIFIER w_PUNCTUATION w_END w_ALIAS w_BODY w_ABORT w_HEADER w_STRING w_EOF z h0 n0 v U'.heap L ∧ CHr Z own_EL s.vm s.heap U'.vm U'.heap ∧ ReturnedEndW s o U' L room_1.cells room_1.slots
set_option maxRecDepth 65536 in
set_option maxHeartbeats 40000000 in
theorem rm0 (l : Launch) (Z : State) (a0 : Array Value) (hw : ∀ d ∈ tables_1, d.before a0 Z = true) (ws : List Jvm.Cond) (x0 : Int32) (x1 : Int32) (x2 : Int32) (x3 : Int32) (x4 : Int32) (x5 : Int32) (w_INTEGER : Addr) (w_IDENTIFIER : Addr) (w_PUNCTUATION : Addr) (w_END : Addr) (w_ALIAS : Addr) (w_BODY : Addr) (w_ABORT : Addr) (w_HEADER : Addr) (w_STRING : Addr) (w_EOF : Addr) (z : Int32) (h0 : Heap) (n0 : Nat) (Z0 : n0 ≤ h0.size) (S_INTEGER : Sta Z h0 "com/example/libbuchi/libbuchi/automaton/HoaTokenizer$Kind" "INTEGER" "Lcom/example/libbuchi/libbuchi/automaton/HoaTokenizer$Kind;" (.ref w_INTEGER)) (E_INTEGER : Exa Z h0 w_INTEGER "com/example/libbuchi/libbuchi/automaton/HoaTokenizer$Kind") (S_IDENTIFIER : Sta Z h0 "com/example/libbuchi/libbuchi/automaton/HoaTokenizer$Kind" "IDENTIFIER" "Lcom/example/libbuchi/libbuchi/automaton/HoaTokenizer$Kind;" (.ref w_IDENTIFIER)) (E_IDENTIFIER : Exa Z h0 w_IDENTIFIER "com/example/libbuchi/libbuchi/automaton/HoaTokenizer$Kind") (S_PUNCTUATION : Sta Z h0 "com/example/libbuchi/libbuchi/automaton/HoaTokenizer$Kind" "PUNCTUATION" "Lcom/example/libbuchi/libbuchi/automaton/HoaTokenizer$Kind;" (.ref w_PUNCTUATION)) (E_PUNCTUATION : Exa Z h0 w_PUNCTUATION "com/example/libbuchi/libbuchi/automaton/HoaTokenizer$Kind") (S_END : Sta Z h0 "com/example/libbuchi/libbuchi/automaton/HoaTokenizer$Kind" "END" "Lcom/example/libbuchi/libbuchi/automaton/HoaTokenizer$Kind;" (.ref w_END)) (E_END : Exa Z h0 w_END "com/example/libbuchi/libbuchi/automaton/HoaTokenizer$Kind") (S_ALIAS : Sta Z h0 "com/example/libbuchi/libbuchi/automaton/HoaTokenizer$Kind" "ALIAS" "Lcom/example/libbuchi/libbuchi/automaton/HoaTokenizer$Kind;" (.ref w_ALIAS)) (E_ALIAS : Exa Z h0 w_ALIAS "com/example/libbuchi/libbuchi/automaton/HoaTokenizer$Kind") (S_BODY : Sta Z h0 "com/example/libbuchi/libbuchi/automaton/HoaTokenizer$Kind" "BODY" "Lcom/example/libbuchi/libbuchi/automaton/HoaTokenizer$Kind;" (.ref w_BODY)) (E_BODY : Exa Z h0 w_BODY "com/example/libbuchi/libbuchi/automaton/HoaTokenizer$Kind") (S_ABORT : Sta Z h0 "com/example/libbuchi/libbuchi/automaton/HoaTokenizer$Kind" "ABORT" "Lcom/example/libbuchi/libbuchi/automaton/HoaTokenizer$Kind;" (.ref w_ABORT)) (E_ABORT : Exa Z h0 w_ABORT "com/example/libbuchi/libbuchi/automaton/HoaTokenizer$Kind") (S_HEADER : Sta Z h0 "com/example/libbuchi/libbuchi/automaton/HoaTokenizer$Kind" "HEADER" "Lcom/example/libbuchi/libbuchi/automaton/HoaTokenizer$Kind;" (.ref w_HEADER)) (E_HEADER : Exa Z h0 w_HEADER "com/example/libbuchi/libbuchi/automaton/HoaTokenizer$Kind") (S_STRING : Sta Z h0 "com/example/libbuchi/libbuchi/automaton/HoaTokenizer$Kind" "STRING" "Lcom/example/libbuchi/libbuchi/automaton/HoaTokenizer$Kind;" (.ref w_STRING)) (E_STRING : Exa Z h0 w_STRING "com/example/libbuchi/libbuchi/automaton/HoaTokenizer$Kind") (S_EOF : Sta Z h0 "com/example/libbuchi/libbuchi/automaton/HoaTokenizer$Kind" "EOF" "Lcom/example/libbuchi/libbuchi/automaton/HoaTokenizer$Kind;" (.ref w_EOF)) (E_EOF : Exa Z h0 w_EOF "com/example/libbuchi/libbuchi/automaton/HoaTokenizer$Kind") (F_INTEGER_ordinal : Fld Z h0 w_INTEGER "java/lang/Enum" "ordinal" "I" (.int (2 : Int32))) (F_IDENTIFIER_ordinal : Fld Z h0 w_IDENTIFIER "java/lang/Enum" "ordinal" "I" (.int (1 : Int32))) (F_PUNCTUATION_ordinal : Fld Z h0 w_PUNCTUATION "java/lang/Enum" "ordinal" "I" (.int (5 : Int32))) (F_END_ordinal : Fld Z h0 w_END "java/lang/Enum" "ordinal" "I" (.int (7 : Int32))) (F_ALIAS_ordinal : Fld Z h0 w_ALIAS "java/lang/Enum" "ordinal" "I" (.int (4 : Int32))) (F_BODY_ordinal : Fld Z h0 w_BODY "java/lang/Enum" "ordinal" "I" (.int (6 : Int32))) (F_ABORT_ordinal : Fld Z h0 w_ABORT "java/lang/Enum" "ordinal" "I" (.int (8 : Int32))) (F_HEADER_ordinal : Fld Z h0 w_HEADER "java/lang/Enum" "ordinal" "I" (.int (0 : Int32))) (F_STRING_ordinal : Fld Z h0 w_STRING "java/lang/Enum" "ordinal" "I" (.int (3 : Int32))) (F_EOF_ordinal : Fld Z h0 w_EOF "java/lang/Enum" "ordinal" "I" (.int (9 : Int32))) (S_z : Sta Z h0 "java/lang/String" "COMPACT_STRINGS" "Z" (.int z)) (hz : ¬ z = 0) :
    MetFree l x (head1 (Jvm.Cond.code x code maxLocals ret :: ws) room_1) (fun aa U => aa = #[(.int x0), (.int x1), (.int x2), (.int x3), (.int x4), (.int x5)] ∧ Z.Warmed39 U.vm ∧ U.heap = h0 ∧ CHv Z own_EL U.vm h0) (fun _ _ _ _ _ => True) (fun _ U o U' => ∃ v L, o = .returned v ∧ Qrm0 Z x0 x1 x2 x3 x4 x5 w_INTEGER w_IDENTIFIER w_PUNCTUATION w_END w_ALIAS w_BODY w_ABORT w_HEADER w_STRING w_EOF z h0 n0 v U'.heap L ∧ CHr Z own_EL U.vm U.heap U'.vm U'.heap ∧ ReturnedEndW U o U' L room_1.cells room_1.slots) := by
  refine MetFree.of_bodySF (plainFor_of_name pn_1) hisR ?_
  intro p e s m args below meth c s₁ Bd hml0 hP hK
  obtain ⟨rfl, hZ, hh, hC0⟩ := hP
  have hx := Bd.exec
  have hlk : meth.locks = false := by first | exact BodyLoose.notSynchronized Bd | exact Body.notSynchronized Bd
  have hby := Bd.bytes
  have hml : c.maxLocals = 22 := hml0
  have hown : s.vm.findClass "com/example/libbuchi/libbuchi/automaton/TokenIsPinLaw" = some m.cls := findClass_of_methodNamed Bd.named
  have hnm := (name_of_methodNamed Bd.named Bd.method).1
  have X0 : Stand p l e room_1 (s.setVm s.vm) m #[(.int x0), (.int x1), (.int x2), (.int x3), (.int x4), (.int x5)] below meth c s₁ [] 0 0 := Stand.of_body Bd
  have e0 : s₁.heap = h0 := by rw [← hh, Bd.state]; rfl
  have N0 := Fr.nil n0
  have hEL : EW Z a0 own_EL := EW.cons (hw _ (List.mem_of_getElem? (i := 19) rfl)) (by decide) EW.nil
  have hS0 : s.Since s.vm 0 := (State.WarmedH.refl s).since 0
  have hk0 : 0 ≤ h0.size := Nat.zero_le _
  have R0 : CHr Z own_EL s.vm h0 s.vm h0 := CHr.refl hC0
  show Done p e below (Prm0 s Z x0 x1 x2 x3 x4 x5 w_INTEGER w_IDENTIFIER w_PUNCTUATION w_END w_ALIAS w_BODY w_ABORT w_HEADER w_STRING w_EOF z h0 n0) (s₁.setTop (entryFrame m #[(.int x0), (.int x1), (.int x2), (.int x3), (.int x4), (.int x5)] maxLocals))
  refine Done.st (B := s₁.setTop (mkF m 0 #[.val (.int x0), .val (.int x1), .val (.int x2), .val (.int x3), .val (.int x4), .val (.int x5), .unset, .unset, .unset, .unset, .unset, .unset, .unset, .unset, .unset, .unset, .unset, .unset, .unset, .unset, .unset, .unset] [])) (fun _ k => castTop (ef_rm0 m x0 x1 x2 x3 x4 x5) k) ?_
  refine Done.st (B := s₁.setTop (mkF m 1 #[.val (.int x0), .val (.int x1), .val (.int x2), .val (.int x3), .val (.int x4), .val (.int x5), .unset, .unset, .unset, .unset, .unset, .unset, .unset, .unset, .unset, .unset, .unset, .unset, .unset, .unset, .unset, .unset] [(.int x2)])) (fun _ k => XS.iloadN X0.here hx rfl (hb hby at_0) rfl k) ?_
  refine Done.st (B := s₁.setTop (mkF m 3 #[.val (.int x0), .val (.int x1), .val (.int x2), .val (.int x3), .val (.int x4), .val (.int x5), .unset, .unset, .unset, .unset, .unset, .unset, .unset, .unset, .unset, .unset, .unset, .unset, .unset, .unset, .unset, .unset] [(.int (2147483647 : Int32)), (.int x2)])) (fun _ k => X0.ldcInt hx hown (mvT hZ (hw _ (List.mem_of_getElem? (i := 0) rfl))) (g := (mkF m 1 #[.val (.int x0), .val (.int x1), .val (.int x2), .val (.int x3), .val (.int x4), .val (.int x5), .unset, .unset, .unset, .unset, .unset, .unset, .unset, .unset, .unset, .unset, .unset, .unset, .unset, .unset, .unset, .unset] [(.int x2)])) rfl (hb hby at_1) _ k) ?_
  refine Done.st (B := s₁.setTop (mkF m 4 #[.val (.int x0), .val (.int x1), .val (.int x2), .val (.int x3), .val (.int x4), .val (.int x5), .unset, .unset, .unset, .unset, .unset, .unset, .unset, .unset, .unset, .unset, .unset, .unset, .unset, .unset, .unset, .unset] [(.int (x2 &&& (2147483647 : Int32)))])) (fun _ k => XS.iand X0.here hx rfl (hb hby at_3) rfl k) ?_
  refine Done.st (B := s₁.setTop (mkF m 6 #[.val (.int x0), .val (.int x1), .val (.int x2), .val (.int x3), .val (.int x4), .val (.int x5), .unset, .unset, .unset, .unset, .unset, .unset, .unset, .unset, .unset, .unset, .unset, .unset, .unset, .unset, .unset, .unset] [(.int (10 : Int32)), (.int (x2 &&& (2147483647 : Int32)))])) (fun _ k => XS.bipush X0.here hx rfl (hb hby at_4) k) ?_
  refine Done.st (B := s₁.setTop (mkF m 7 #[.val (.int x0), .val (.int x1), .val (.int x2), .val (.int x3), .val (.int x4), .val (.int x5), .unset, .unset, .unset, .unset, .unset, .unset, .unset, .unset, .unset, .unset, .unset, .unset, .unset, .unset, .unset, .unset] [(.int ((x2 &&& (2147483647 : Int32)) % (10 : Int32)))])) (fun _ k => iremM X0 hx rfl (hb hby at_6) rfl (by decide) k) ?_
  refine Done.st (B := s₁.setTop (mkF m 9 #[.val (.int x0), .val (.int x1), .val (.int x2), .val (.int x3), .val (.int x4), .val (.int x5), .val (.int ((x2 &&& (2147483647 : Int32)) % (10 : Int32))), .unset, .unset, .unset, .unset, .unset, .unset, .unset, .unset, .unset, .unset, .unset, .unset, .unset, .unset, .unset] [])) (fun _ k => XS.istore X0.here hx rfl (hb hby at_7) rfl (l' := #[.val (.int x0), .val (.int x1), .val (.int x2), .val (.int x3), .val (.int x4), .val (.int x5), .val (.int ((x2 &&& (2147483647 : Int32)) % (10 : Int32))), .unset, .unset, .unset, .unset, .unset, .unset, .unset, .unset, .unset, .unset, .unset, .unset, .unset, .unset, .unset]) rfl k) ?_
  refine Done.st (B := s₁.setTop (mkF m 10 #[.val (.int x0), .val (.int x1), .val (.int x2), .val (.int x3), .val (.int x4), .val (.int x5), .val (.int ((x2 &&& (2147483647 : Int32)) % (10 : Int32))), .unset, .unset, .unset, .unset, .unset, .unset, .unset, .unset, .unset, .unset, .unset, .unset, .unset, .unset, .unset] [(.int x3)])) (fun _ k => XS.iloadN X0.here hx rfl (hb hby at_9) rfl k) ?_
  refine Done.st (B := s₁.setTop (mkF m 12 #[.val (.int x0), .val (.int x1), .val (.int x2), .val (.int x3), .val (.int x4), .val (.int x5), .val (.int ((x2 &&& (2147483647 : Int32)) % (10 : Int32))), .unset, .unset, .unset, .unset, .unset, .unset, .unset, .unset, .unset, .unset, .unset, .unset, .unset, .unset, .unset] [(.int (2147483647 : Int32)), (.int x3)])) (fun _ k => X0.ldcInt hx hown (mvT hZ (hw _ (List.mem_of_getElem? (i := 0) rfl))) (g := (mkF m 10 #[.val (.int x0), .val (.int x1), .val (.int x2), .val (.int x3), .val (.int x4), .val (.int x5), .val (.int ((x2 &&& (2147483647 : Int32)) % (10 : Int32))), .unset, .unset, .unset, .unset, .unset, .unset, .unset, .unset, .unset, .unset, .unset, .unset, .unset, .unset, .unset] [(.int x3)])) rfl (hb hby at_10) _ k) ?_
  refine Done.st (B := s₁.setTop (mkF m 13 #[.val (.int x0), .val (.int x1), .val (.int x2), .val (.int x3), .val (.int x4), .val (.int x5), .val (.int ((x2 &&& (2147483647 : Int32)) % (10 : Int32))), .unset, .unset, .unset, .unset, .unset, .unset, .unset, .unset, .unset, .unset, .unset, .unset, .unset, .unset, .unset] [(.int (x3 &&& (2147483647 : Int32)))])) (fun _ k => XS.iand X0.here hx rfl (hb hby at_12) rfl k) ?_
  refine Done.st (B := s₁.setTop (mkF m 15 #[.val (.int x0), .val (.int x1), .val (.int x2), .val (.int x3), .val (.int x4), .val (.int x5), .val (.int ((x2 &&& (2147483647 : Int32)) % (10 : Int32))), .unset, .unset, .unset, .unset, .unset, .unset, .unset, .unset, .unset, .unset, .unset, .unset, .unset, .unset, .unset] [(.int (10 : Int32)), (.int (x3 &&& (2147483647 : Int32)))])) (fun _ k => XS.bipush X0.here hx rfl (hb hby at_13) k) ?_
  refine Done.st (B := s₁.setTop (mkF m 16 #[.val (.int x0), .val (.int x1), .val (.int x2), .val (.int x3), .val (.int x4), .val (.int x5), .val (.int ((x2 &&& (2147483647 : Int32)) % (10 : Int32))), .unset, .unset, .unset, .unset, .unset, .unset, .unset, .unset, .unset, .unset, .unset, .unset, .unset, .unset, .unset] [(.int ((x3 &&& (2147483647 : Int32)) % (10 : Int32)))])) (fun _ k => iremM X0 hx rfl (hb hby at_15) rfl (by decide) k) ?_
  refine Done.st (B := s₁.setTop (mkF m 18 #[.val (.int x0), .val (.int x1), .val (.int x2), .val (.int x3), .val (.int x4), .val (.int x5), .val (.int ((x2 &&& (2147483647 : Int32)) % (10 : Int32))), .val (.int ((x3 &&& (2147483647 : Int32)) % (10 : Int32))), .unset, .unset, .unset, .unset, .unset, .unset, .unset, .unset, .unset, .unset, .unset, .unset, .unset, .unset] [])) (fun _ k => XS.istore X0.here hx rfl (hb hby at_16) rfl (l' := #[.val (.int x0), .val (.int x1), .val (.int x2), .val (.int x3), .val (.int x4), .val (.int x5), .val (.int ((x2 &&& (2147483647 : Int32)) % (10 : Int32))), .val (.int ((x3 &&& (2147483647 : Int32)) % (10 : Int32))), .unset, .unset, .unset, .unset, .unset, .unset, .unset, .unset, .unset, .unset, .unset, .unset, .unset, .unset]) rfl k) ?_
  refine Done.st (B := s₁.setTop (mkF m 19 #[.val (.int x0), .val (.int x1), .val (.int x2), .val (.int x3), .val (.int x4), .val (.int x5), .val (.int ((x2 &&& (2147483647 : Int32)) % (10 : Int32))), .val (.int ((x3 &&& (2147483647 : Int32)) % (10 : Int32))), .unset, .unset, .unset, .unset, .unset, .unset, .unset, .unset, .unset, .unset, .unset, .unset, .unset, .unset] [(.int x0)])) (fun _ k => XS.iloadN X0.here hx rfl (hb hby at_18) rfl k) ?_
  refine Done.st (B := s₁.setTop (mkF m 20 #[.val (.int x0), .val (.int x1), .val (.int x2), .val (.int x3), .val (.int x4), .val (.int x5), .val (.int ((x2 &&& (2147483647 : Int32)) % (10 : Int32))), .val (.int ((x3 &&& (2147483647 : Int32)) % (10 : Int32))), .unset, .unset, .unset, .unset, .unset, .unset, .unset, .unset, .unset, .unset, .unset, .unset, .unset, .unset] [(.int (3 : Int32)), (.int x0)])) (fun _ k => XS.iconst X0.here hx rfl (hb hby at_19) k) ?_
  refine Done.st (B := s₁.setTop (mkF m 21 #[.val (.int x0), .val (.int x1), .val (.int x2), .val (.int x3), .val (.int x4), .val (.int x5), .val (.int ((x2 &&& (2147483647 : Int32)) % (10 : Int32))), .val (.int ((x3 &&& (2147483647 : Int32)) % (10 : Int32))), .unset, .unset, .unset, .unset, .unset, .unset, .unset, .unset, .unset, .unset, .unset, .unset, .unset, .unset] [(.int (x0 &&& (3 : Int32)))])) (fun _ k => XS.iand X0.here hx rfl (hb hby at_20) rfl k) ?_
  refine Done.st (B := s₁.setTop (mkF m 23 #[.val (.int x0), .val (.int x1), .val (.int x2), .val (.int x3), .val (.int x4), .val (.int x5), .val (.int ((x2 &&& (2147483647 : Int32)) % (10 : Int32))), .val (.int ((x3 &&& (2147483647 : Int32)) % (10 : Int32))), .val (.int (x0 &&& (3 : Int32))), .unset, .unset, .unset, .unset, .unset, .unset, .unset, .unset, .unset, .unset, .unset, .unset, .unset] [])) (fun _ k => XS.istore X0.here hx rfl (hb hby at_21) rfl (l' := #[.val (.int x0), .val (.int x1), .val (.int x2), .val (.int x3), .val (.int x4), .val (.int x5), .val (.int ((x2 &&& (2147483647 : Int32)) % (10 : Int32))), .val (.int ((x3 &&& (2147483647 : Int32)) % (10 : Int32))), .val (.int (x0 &&& (3 : Int32))), .unset, .unset, .unset, .unset, .unset, .unset, .unset, .unset, .unset, .unset, .unset, .unset, .unset]) rfl k) ?_
  refine Done.st (B := s₁.setTop (mkF m 25 #[.val (.int x0), .val (.int x1), .val (.int x2), .val (.int x3), .val (.int x4), .val (.int x5), .val (.int ((x2 &&& (2147483647 : Int32)) % (10 : Int32))), .val (.int ((x3 &&& (2147483647 : Int32)) % (10 : Int32))), .val (.int (x0 &&& (3 : Int32))), .unset, .unset, .unset, .unset, .unset, .unset, .unset, .unset, .unset, .unset, .unset, .unset, .unset] [(.int x5)])) (fun _ k => XS.iload X0.here hx rfl (hb hby at_23) rfl k) ?_
  refine Done.st (B := s₁.setTop (mkF m 26 #[.val (.int x0), .val (.int x1), .val (.int x2), .val (.int x3), .val (.int x4), .val (.int x5), .val (.int ((x2 &&& (2147483647 : Int32)) % (10 : Int32))), .val (.int ((x3 &&& (2147483647 : Int32)) % (10 : Int32))), .val (.int (x0 &&& (3 : Int32))), .unset, .unset, .unset, .unset, .unset, .unset, .unset, .unset, .unset, .unset, .unset, .unset, .unset] [(.int (1 : Int32)), (.int x5)])) (fun _ k => XS.iconst X0.here hx rfl (hb hby at_25) k) ?_
  refine Done.st (B := s₁.setTop (mkF m 27 #[.val (.int x0), .val (.int x1), .val (.int x2), .val (.int x3), .val (.int x4), .val (.int x5), .val (.int ((x2 &&& (2147483647 : Int32)) % (10 : Int32))), .val (.int ((x3 &&& (2147483647 : Int32)) % (10 : Int32))), .val (.int (x0 &&& (3 : Int32))), .unset, .unset, .unset, .unset, .unset, .unset, .unset, .unset, .unset, .unset, .unset, .unset, .unset] [(.int ((x5.toUInt32 >>> ((1 : Int32) &&& 31).toUInt32).toInt32))])) (fun _ k => XS.iushr X0.here hx rfl (hb hby at_26) rfl k) ?_
  refine Done.st (B := s₁.setTop (mkF m 28 #[.val (.int x0), .val (.int x1), .val (.int x2), .val (.int x3), .val (.int x4), .val (.int x5), .val (.int ((x2 &&& (2147483647 : Int32)) % (10 : Int32))), .val (.int ((x3 &&& (2147483647 : Int32)) % (10 : Int32))), .val (.int (x0 &&& (3 : Int32))), .unset, .unset, .unset, .unset, .unset, .unset, .unset, .unset, .unset, .unset, .unset, .unset, .unset] [(.int (3 : Int32)), (.int ((x5.toUInt32 >>> ((1 : Int32) &&& 31).toUInt32).toInt32))])) (fun _ k => XS.iconst X0.here hx rfl (hb hby at_27) k) ?_
  refine Done.st (B := s₁.setTop (mkF m 29 #[.val (.int x0), .val (.int x1), .val (.int x2), .val (.int x3), .val (.int x4), .val (.int x5), .val (.int ((x2 &&& (2147483647 : Int32)) % (10 : Int32))), .val (.int ((x3 &&& (2147483647 : Int32)) % (10 : Int32))), .val (.int (x0 &&& (3 : Int32))), .unset, .unset, .unset, .unset, .unset, .unset, .unset, .unset, .unset, .unset, .unset, .unset, .unset] [(.int (((x5.toUInt32 >>> ((1 : Int32) &&& 31).toUInt32).toInt32) &&& (3 : Int32)))])) (fun _ k => XS.iand X0.here hx rfl (hb hby at_28) rfl k) ?_
  refine Done.st (B := s₁.setTop (mkF m 31 #[.val (.int x0), .val (.int x1), .val (.int x2), .val (.int x3), .val (.int x4), .val (.int x5), .val (.int ((x2 &&& (2147483647 : Int32)) % (10 : Int32))), .val (.int ((x3 &&& (2147483647 : Int32)) % (10 : Int32))), .val (.int (x0 &&& (3 : Int32))), .val (.int (((x5.toUInt32 >>> ((1 : Int32) &&& 31).toUInt32).toInt32) &&& (3 : Int32))), .unset, .unset, .unset, .unset, .unset, .unset, .unset, .unset, .unset, .unset, .unset, .unset] [])) (fun _ k => XS.istore X0.here hx rfl (hb hby at_29) rfl (l' := #[.val (.int x0), .val (.int x1), .val (.int x2), .val (.int x3), .val (.int x4), .val (.int x5), .val (.int ((x2 &&& (2147483647 : Int32)) % (10 : Int32))), .val (.int ((x3 &&& (2147483647 : Int32)) % (10 : Int32))), .val (.int (x0 &&& (3 : Int32))), .val (.int (((x5.toUInt32 >>> ((1 : Int32) &&& 31).toUInt32).toInt32) &&& (3 : Int32))), .unset, .unset, .unset, .unset, .unset, .unset, .unset, .unset, .unset, .unset, .unset, .unset]) rfl k) ?_
  refine Done.st (B := s₁.setTop (mkF m 32 #[.val (.int x0), .val (.int x1), .val (.int x2), .val (.int x3), .val (.int x4), .val (.int x5), .val (.int ((x2 &&& (2147483647 : Int32)) % (10 : Int32))), .val (.int ((x3 &&& (2147483647 : Int32)) % (10 : Int32))), .val (.int (x0 &&& (3 : Int32))), .val (.int (((x5.toUInt32 >>> ((1 : Int32) &&& 31).toUInt32).toInt32) &&& (3 : Int32))), .unset, .unset, .unset, .unset, .unset, .unset, .unset, .unset, .unset, .unset, .unset, .unset] [(.int x0)])) (fun _ k => XS.iloadN X0.here hx rfl (hb hby at_31) rfl k) ?_
  refine Done.st (B := s₁.setTop (mkF m 33 #[.val (.int x0), .val (.int x1), .val (.int x2), .val (.int x3), .val (.int x4), .val (.int x5), .val (.int ((x2 &&& (2147483647 : Int32)) % (10 : Int32))), .val (.int ((x3 &&& (2147483647 : Int32)) % (10 : Int32))), .val (.int (x0 &&& (3 : Int32))), .val (.int (((x5.toUInt32 >>> ((1 : Int32) &&& 31).toUInt32).toInt32) &&& (3 : Int32))), .unset, .unset, .unset, .unset, .unset, .unset, .unset, .unset, .unset, .unset, .unset, .unset] [(.int (2 : Int32)), (.int x0)])) (fun _ k => XS.iconst X0.here hx rfl (hb hby at_32) k) ?_
  refine Done.st (B := s₁.setTop (mkF m 34 #[.val (.int x0), .val (.int x1), .val (.int x2), .val (.int x3), .val (.int x4), .val (.int x5), .val (.int ((x2 &&& (2147483647 : Int32)) % (10 : Int32))), .val (.int ((x3 &&& (2147483647 : Int32)) % (10 : Int32))), .val (.int (x0 &&& (3 : Int32))), .val (.int (((x5.toUInt32 >>> ((1 : Int32) &&& 31).toUInt32).toInt32) &&& (3 : Int32))), .unset, .unset, .unset, .unset, .unset, .unset, .unset, .unset, .unset, .unset, .unset, .unset] [(.int ((x0.toUInt32 >>> ((2 : Int32) &&& 31).toUInt32).toInt32))])) (fun _ k => XS.iushr X0.here hx rfl (hb hby at_33) rfl k) ?_
  refine Done.st (B := s₁.setTop (mkF m 37 #[.val (.int x0), .val (.int x1), .val (.int x2), .val (.int x3), .val (.int x4), .val (.int x5), .val (.int ((x2 &&& (2147483647 : Int32)) % (10 : Int32))), .val (.int ((x3 &&& (2147483647 : Int32)) % (10 : Int32))), .val (.int (x0 &&& (3 : Int32))), .val (.int (((x5.toUInt32 >>> ((1 : Int32) &&& 31).toUInt32).toInt32) &&& (3 : Int32))), .unset, .unset, .unset, .unset, .unset, .unset, .unset, .unset, .unset, .unset, .unset, .unset] [(.int (255 : Int32)), (.int ((x0.toUInt32 >>> ((2 : Int32) &&& 31).toUInt32).toInt32))])) (fun _ k => XS.sipush X0.here hx rfl (hb hby at_34) k) ?_
  refine Done.st (B := s₁.setTop (mkF m 38 #[.val (.int x0), .val (.int x1), .val (.int x2), .val (.int x3), .val (.int x4), .val (.int x5), .val (.int ((x2 &&& (2147483647 : Int32)) % (10 : Int32))), .val (.int ((x3 &&& (2147483647 : Int32)) % (10 : Int32))), .val (.int (x0 &&& (3 : Int32))), .val (.int (((x5.toUInt32 >>> ((1 : Int32) &&& 31).toUInt32).toInt32) &&& (3 : Int32))), .unset, .unset, .unset, .unset, .unset, .unset, .unset, .unset, .unset, .unset, .unset, .unset] [(.int (((x0.toUInt32 >>> ((2 : Int32) &&& 31).toUInt32).toInt32) &&& (255 : Int32)))])) (fun _ k => XS.iand X0.here hx rfl (hb hby at_37) rfl k) ?_
  refine Done.st (B := s₁.setTop (mkF m 40 #[.val (.int x0), .val (.int x1), .val (.int x2), .val (.int x3), .val (.int x4), .val (.int x5), .val (.int ((x2 &&& (2147483647 : Int32)) % (10 : Int32))), .val (.int ((x3 &&& (2147483647 : Int32)) % (10 : Int32))), .val (.int (x0 &&& (3 : Int32))), .val (.int (((x5.toUInt32 >>> ((1 : Int32) &&& 31).toUInt32).toInt32) &&& (3 : Int32))), .val (.int (((x0.toUInt32 >>> ((2 : Int32) &&& 31).toUInt32).toInt32) &&& (255 : Int32))), .unset, .unset, .unset, .unset, .unset, .unset, .unset, .unset, .unset, .unset, .unset] [])) (fun _ k => XS.istore X0.here hx rfl (hb hby at_38) rfl (l' := #[.val (.int x0), .val (.int x1), .val (.int x2), .val (.int x3), .val (.int x4), .val (.int x5), .val (.int ((x2 &&& (2147483647 : Int32)) % (10 : Int32))), .val (.int ((x3 &&& (2147483647 : Int32)) % (10 : Int32))), .val (.int (x0 &&& (3 : Int32))), .val (.int (((x5.toUInt32 >>> ((1 : Int32) &&& 31).toUInt32).toInt32) &&& (3 : Int32))), .val (.int (((x0.toUInt32 >>> ((2 : Int32) &&& 31).toUInt32).toInt32) &&& (255 : Int32))), .unset, .unset, .unset, .unset, .unset, .unset, .unset, .unset, .unset, .unset, .unset]) rfl k) ?_
  refine Done.st (B := s₁.setTop (mkF m 41 #[.val (.int x0), .val (.int x1), .val (.int x2), .val (.int x3), .val (.int x4), .val (.int x5), .val (.int ((x2 &&& (2147483647 : Int32)) % (10 : Int32))), .val (.int ((x3 &&& (2147483647 : Int32)) % (10 : Int32))), .val (.int (x0 &&& (3 : Int32))), .val (.int (((x5.toUInt32 >>> ((1 : Int32) &&& 31).toUInt32).toInt32) &&& (3 : Int32))), .val (.int (((x0.toUInt32 >>> ((2 : Int32) &&& 31).toUInt32).toInt32) &&& (255 : Int32))), .unset, .unset, .unset, .unset, .unset, .unset, .unset, .unset, .unset, .unset, .unset] [(.int x0)])) (fun _ k => XS.iloadN X0.here hx rfl (hb hby at_40) rfl k) ?_
  refine Done.st (B := s₁.setTop (mkF m 43 #[.val (.int x0), .val (.int x1), .val (.int x2), .val (.int x3), .val (.int x4), .val (.int x5), .val (.int ((x2 &&& (2147483647 : Int32)) % (10 : Int32))), .val (.int ((x3 &&& (2147483647 : Int32)) % (10 : Int32))), .val (.int (x0 &&& (3 : Int32))), .val (.int (((x5.toUInt32 >>> ((1 : Int32) &&& 31).toUInt32).toInt32) &&& (3 : Int32))), .val (.int (((x0.toUInt32 >>> ((2 : Int32) &&& 31).toUInt32).toInt32) &&& (255 : Int32))), .unset, .unset, .unset, .unset, .unset, .unset, .unset, .unset, .unset, .unset, .unset] [(.int (10 : Int32)), (.int x0)])) (fun _ k => XS.bipush X0.here hx rfl (hb hby at_41) k) ?_
  refine Done.st (B := s₁.setTop (mkF m 44 #[.val (.int x0), .val (.int x1), .val (.int x2), .val (.int x3), .val (.int x4), .val (.int x5), .val (.int ((x2 &&& (2147483647 : Int32)) % (10 : Int32))), .val (.int ((x3 &&& (2147483647 : Int32)) % (10 : Int32))), .val (.int (x0 &&& (3 : Int32))), .val (.int (((x5.toUInt32 >>> ((1 : Int32) &&& 31).toUInt32).toInt32) &&& (3 : Int32))), .val (.int (((x0.toUInt32 >>> ((2 : Int32) &&& 31).toUInt32).toInt32) &&& (255 : Int32))), .unset, .unset, .unset, .unset, .unset, .unset, .unset, .unset, .unset, .unset, .unset] [(.int ((x0.toUInt32 >>> ((10 : Int32) &&& 31).toUInt32).toInt32))])) (fun _ k => XS.iushr X0.here hx rfl (hb hby at_43) rfl k) ?_
  refine Done.st (B := s₁.setTop (mkF m 47 #[.val (.int x0), .val (.int x1), .val (.int x2), .val (.int x3), .val (.int x4), .val (.int x5), .val (.int ((x2 &&& (2147483647 : Int32)) % (10 : Int32))), .val (.int ((x3 &&& (2147483647 : Int32)) % (10 : Int32))), .val (.int (x0 &&& (3 : Int32))), .val (.int (((x5.toUInt32 >>> ((1 : Int32) &&& 31).toUInt32).toInt32) &&& (3 : Int32))), .val (.int (((x0.toUInt32 >>> ((2 : Int32) &&& 31).toUInt32).toInt32) &&& (255 : Int32))), .unset, .unset, .unset, .unset, .unset, .unset, .unset, .unset, .unset, .unset, .unset] [(.int (255 : Int32)), (.int ((x0.toUInt32 >>> ((10 : Int32) &&& 31).toUInt32).toInt32))])) (fun _ k => XS.sipush X0.here hx rfl (hb hby at_44) k) ?_
  refine Done.st (B := s₁.setTop (mkF m 48 #[.val (.int x0), .val (.int x1), .val (.int x2), .val (.int x3), .val (.int x4), .val (.int x5), .val (.int ((x2 &&& (2147483647 : Int32)) % (10 : Int32))), .val (.int ((x3 &&& (2147483647 : Int32)) % (10 : Int32))), .val (.int (x0 &&& (3 : Int32))), .val (.int (((x5.toUInt32 >>> ((1 : Int32) &&& 31).toUInt32).toInt32) &&& (3 : Int32))), .val (.int (((x0.toUInt32 >>> ((2 : Int32) &&& 31).toUInt32).toInt32) &&& (255 : Int32))), .unset, .unset, .unset, .unset, .unset, .unset, .unset, .unset, .unset, .unset, .unset] [(.int (((x0.toUInt32 >>> ((10 : Int32) &&& 31).toUInt32).toInt32) &&& (255 : Int32)))])) (fun _ k => XS.iand X0.here hx rfl (hb hby at_47) rfl k) ?_
  refine Done.st (B := s₁.setTop (mkF m 50 #[.val (.int x0), .val (.int x1), .val (.int x2), .val (.int x3), .val (.int x4), .val (.int x5), .val (.int ((x2 &&& (2147483647 : Int32)) % (10 : Int32))), .val (.int ((x3 &&& (2147483647 : Int32)) % (10 : Int32))), .val (.int (x0 &&& (3 : Int32))), .val (.int (((x5.toUInt32 >>> ((1 : Int32) &&& 31).toUInt32).toInt32) &&& (3 : Int32))), .val (.int (((x0.toUInt32 >>> ((2 : Int32) &&& 31).toUInt32).toInt32) &&& (255 : Int32))), .val (.int (((x0.toUInt32 >>> ((10 : Int32) &&& 31).toUInt32).toInt32) &&& (255 : Int32))), .unset, .unset, .unset, .unset, .unset, .unset, .unset, .unset, .unset, .unset] [])) (fun _ k => XS.istore X0.here hx rfl (hb hby at_48) rfl (l' := #[.val (.int x0), .val (.int x1), .val (.int x2), .val (.int x3), .val (.int x4), .val (.int x5), .val (.int ((x2 &&& (2147483647 : Int32)) % (10 : Int32))), .val (.int ((x3 &&& (2147483647 : Int32)) % (10 : Int32))), .val (.int (x0 &&& (3 : Int32))), .val (.int (((x5.toUInt32 >>> ((1 : Int32) &&& 31).toUInt32).toInt32) &&& (3 : Int32))), .val (.int (((x0.toUInt32 >>> ((2 : Int32) &&& 31).toUInt32).toInt32) &&& (255 : Int32))), .val (.int (((x0.toUInt32 >>> ((10 : Int32) &&& 31).toUInt32).toInt32) &&& (255 : Int32))), .unset, .unset, .unset, .unset, .unset, .unset, .unset, .unset, .unset, .unset]) rfl k) ?_
  refine Done.st (B := s₁.setTop (mkF m 51 #[.val (.int x0), .val (.int x1), .val (.int x2), .val (.int x3), .val (.int x4), .val (.int x5), .val (.int ((x2 &&& (2147483647 : Int32)) % (10 : Int32))), .val (.int ((x3 &&& (2147483647 : Int32)) % (10 : Int32))), .val (.int (x0 &&& (3 : Int32))), .val (.int (((x5.toUInt32 >>> ((1 : Int32) &&& 31).toUInt32).toInt32) &&& (3 : Int32))), .val (.int (((x0.toUInt32 >>> ((2 : Int32) &&& 31).toUInt32).toInt32) &&& (255 : Int32))), .val (.int (((x0.toUInt32 >>> ((10 : Int32) &&& 31).toUInt32).toInt32) &&& (255 : Int32))), .unset, .unset, .unset, .unset, .unset, .unset, .unset, .unset, .unset, .unset] [(.int x0)])) (fun _ k => XS.iloadN X0.here hx rfl (hb hby at_50) rfl k) ?_
  refine Done.st (B := s₁.setTop (mkF m 53 #[.val (.int x0), .val (.int x1), .val (.int x2), .val (.int x3), .val (.int x4), .val (.int x5), .val (.int ((x2 &&& (2147483647 : Int32)) % (10 : Int32))), .val (.int ((x3 &&& (2147483647 : Int32)) % (10 : Int32))), .val (.int (x0 &&& (3 : Int32))), .val (.int (((x5.toUInt32 >>> ((1 : Int32) &&& 31).toUInt32).toInt32) &&& (3 : Int32))), .val (.int (((x0.toUInt32 >>> ((2 : Int32) &&& 31).toUInt32).toInt32) &&& (255 : Int32))), .val (.int (((x0.toUInt32 >>> ((10 : Int32) &&& 31).toUInt32).toInt32) &&& (255 : Int32))), .unset, .unset, .unset, .unset, .unset, .unset, .unset, .unset, .unset, .unset] [(.int (18 : Int32)), (.int x0)])) (fun _ k => XS.bipush X0.here hx rfl (hb hby at_51) k) ?_
  refine Done.st (B := s₁.setTop (mkF m 54 #[.val (.int x0), .val (.int x1), .val (.int x2), .val (.int x3), .val (.int x4), .val (.int x5), .val (.int ((x2 &&& (2147483647 : Int32)) % (10 : Int32))), .val (.int ((x3 &&& (2147483647 : Int32)) % (10 : Int32))), .val (.int (x0 &&& (3 : Int32))), .val (.int (((x5.toUInt32 >>> ((1 : Int32) &&& 31).toUInt32).toInt32) &&& (3 : Int32))), .val (.int (((x0.toUInt32 >>> ((2 : Int32) &&& 31).toUInt32).toInt32) &&& (255 : Int32))), .val (.int (((x0.toUInt32 >>> ((10 : Int32) &&& 31).toUInt32).toInt32) &&& (255 : Int32))), .unset, .unset, .unset, .unset, .unset, .unset, .unset, .unset, .unset, .unset] [(.int ((x0.toUInt32 >>> ((18 : Int32) &&& 31).toUInt32).toInt32))])) (fun _ k => XS.iushr X0.here hx rfl (hb hby at_53) rfl k) ?_
  refine Done.st (B := s₁.setTop (mkF m 57 #[.val (.int x0), .val (.int x1), .val (.int x2), .val (.int x3), .val (.int x4), .val (.int x5), .val (.int ((x2 &&& (2147483647 : Int32)) % (10 : Int32))), .val (.int ((x3 &&& (2147483647 : Int32)) % (10 : Int32))), .val (.int (x0 &&& (3 : Int32))), .val (.int (((x5.toUInt32 >>> ((1 : Int32) &&& 31).toUInt32).toInt32) &&& (3 : Int32))), .val (.int (((x0.toUInt32 >>> ((2 : Int32) &&& 31).toUInt32).toInt32) &&& (255 : Int32))), .val (.int (((x0.toUInt32 >>> ((10 : Int32) &&& 31).toUInt32).toInt32) &&& (255 : Int32))), .unset, .unset, .unset, .unset, .unset, .unset, .unset, .unset, .unset, .unset] [(.int (255 : Int32)), (.int ((x0.toUInt32 >>> ((18 : Int32) &&& 31).toUInt32).toInt32))])) (fun _ k => XS.sipush X0.here hx rfl (hb hby at_54) k) ?_
  refine Done.st (B := s₁.setTop (mkF m 58 #[.val (.int x0), .val (.int x1), .val (.int x2), .val (.int x3), .val (.int x4), .val (.int x5), .val (.int ((x2 &&& (2147483647 : Int32)) % (10 : Int32))), .val (.int ((x3 &&& (2147483647 : Int32)) % (10 : Int32))), .val (.int (x0 &&& (3 : Int32))), .val (.int (((x5.toUInt32 >>> ((1 : Int32) &&& 31).toUInt32).toInt32) &&& (3 : Int32))), .val (.int (((x0.toUInt32 >>> ((2 : Int32) &&& 31).toUInt32).toInt32) &&& (255 : Int32))), .val (.int (((x0.toUInt32 >>> ((10 : Int32) &&& 31).toUInt32).toInt32) &&& (255 : Int32))), .unset, .unset, .unset, .unset, .unset, .unset, .unset, .unset, .unset, .unset] [(.int (((x0.toUInt32 >>> ((18 : Int32) &&& 31).toUInt32).toInt32) &&& (255 : Int32)))])) (fun _ k => XS.iand X0.here hx rfl (hb hby at_57) rfl k) ?_
  refine Done.st (B := s₁.setTop (mkF m 60 #[.val (.int x0), .val (.int x1), .val (.int x2), .val (.int x3), .val (.int x4), .val (.int x5), .val (.int ((x2 &&& (2147483647 : Int32)) % (10 : Int32))), .val (.int ((x3 &&& (2147483647 : Int32)) % (10 : Int32))), .val (.int (x0 &&& (3 : Int32))), .val (.int (((x5.toUInt32 >>> ((1 : Int32) &&& 31).toUInt32).toInt32) &&& (3 : Int32))), .val (.int (((x0.toUInt32 >>> ((2 : Int32) &&& 31).toUInt32).toInt32) &&& (255 : Int32))), .val (.int (((x0.toUInt32 >>> ((10 : Int32) &&& 31).toUInt32).toInt32) &&& (255 : Int32))), .val (.int (((x0.toUInt32 >>> ((18 : Int32) &&& 31).toUInt32).toInt32) &&& (255 : Int32))), .unset, .unset, .unset, .unset, .unset, .unset, .unset, .unset, .unset] [])) (fun _ k => XS.istore X0.here hx rfl (hb hby at_58) rfl (l' := #[.val (.int x0), .val (.int x1), .val (.int x2), .val (.int x3), .val (.int x4), .val (.int x5), .val (.int ((x2 &&& (2147483647 : Int32)) % (10 : Int32))), .val (.int ((x3 &&& (2147483647 : Int32)) % (10 : Int32))), .val (.int (x0 &&& (3 : Int32))), .val (.int (((x5.toUInt32 >>> ((1 : Int32) &&& 31).toUInt32).toInt32) &&& (3 : Int32))), .val (.int (((x0.toUInt32 >>> ((2 : Int32) &&& 31).toUInt32).toInt32) &&& (255 : Int32))), .val (.int (((x0.toUInt32 >>> ((10 : Int32) &&& 31).toUInt32).toInt32) &&& (255 : Int32))), .val (.int (((x0.toUInt32 >>> ((18 : Int32) &&& 31).toUInt32).toInt32) &&& (255 : Int32))), .unset, .unset, .unset, .unset, .unset, .unset, .unset, .unset, .unset]) rfl k) ?_
  refine Done.st (B := s₁.setTop (mkF m 61 #[.val (.int x0), .val (.int x1), .val (.int x2), .val (.int x3), .val (.int x4), .val (.int x5), .val (.int ((x2 &&& (2147483647 : Int32)) % (10 : Int32))), .val (.int ((x3 &&& (2147483647 : Int32)) % (10 : Int32))), .val (.int (x0 &&& (3 : Int32))), .val (.int (((x5.toUInt32 >>> ((1 : Int32) &&& 31).toUInt32).toInt32) &&& (3 : Int32))), .val (.int (((x0.toUInt32 >>> ((2 : Int32) &&& 31).toUInt32).toInt32) &&& (255 : Int32))), .val (.int (((x0.toUInt32 >>> ((10 : Int32) &&& 31).toUInt32).toInt32) &&& (255 : Int32))), .val (.int (((x0.toUInt32 >>> ((18 : Int32) &&& 31).toUInt32).toInt32) &&& (255 : Int32))), .unset, .unset, .unset, .unset, .unset, .unset, .unset, .unset, .unset] [(.int x1)])) (fun _ k => XS.iloadN X0.here hx rfl (hb hby at_60) rfl k) ?_
  refine Done.st (B := s₁.setTop (mkF m 64 #[.val (.int x0), .val (.int x1), .val (.int x2), .val (.int x3), .val (.int x4), .val (.int x5), .val (.int ((x2 &&& (2147483647 : Int32)) % (10 : Int32))), .val (.int ((x3 &&& (2147483647 : Int32)) % (10 : Int32))), .val (.int (x0 &&& (3 : Int32))), .val (.int (((x5.toUInt32 >>> ((1 : Int32) &&& 31).toUInt32).toInt32) &&& (3 : Int32))), .val (.int (((x0.toUInt32 >>> ((2 : Int32) &&& 31).toUInt32).toInt32) &&& (255 : Int32))), .val (.int (((x0.toUInt32 >>> ((10 : Int32) &&& 31).toUInt32).toInt32) &&& (255 : Int32))), .val (.int (((x0.toUInt32 >>> ((18 : Int32) &&& 31).toUInt32).toInt32) &&& (255 : Int32))), .unset, .unset, .unset, .unset, .unset, .unset, .unset, .unset, .unset] [(.int (255 : Int32)), (.int x1)])) (fun _ k => XS.sipush X0.here hx rfl (hb hby at_61) k) ?_
  refine Done.st (B := s₁.setTop (mkF m 65 #[.val (.int x0), .val (.int x1), .val (.int x2), .val (.int x3), .val (.int x4), .val (.int x5), .val (.int ((x2 &&& (2147483647 : Int32)) % (10 : Int32))), .val (.int ((x3 &&& (2147483647 : Int32)) % (10 : Int32))), .val (.int (x0 &&& (3 : Int32))), .val (.int (((x5.toUInt32 >>> ((1 : Int32) &&& 31).toUInt32).toInt32) &&& (3 : Int32))), .val (.int (((x0.toUInt32 >>> ((2 : Int32) &&& 31).toUInt32).toInt32) &&& (255 : Int32))), .val (.int (((x0.toUInt32 >>> ((10 : Int32) &&& 31).toUInt32).toInt32) &&& (255 : Int32))), .val (.int (((x0.toUInt32 >>> ((18 : Int32) &&& 31).toUInt32).toInt32) &&& (255 : Int32))), .unset, .unset, .unset, .unset, .unset, .unset, .unset, .unset, .unset] [(.int (x1 &&& (255 : Int32)))])) (fun _ k => XS.iand X0.here hx rfl (hb hby at_64) rfl k) ?_
  refine Done.st (B := s₁.setTop (mkF m 67 #[.val (.int x0), .val (.int x1), .val (.int x2), .val (.int x3), .val (.int x4), .val (.int x5), .val (.int ((x2 &&& (2147483647 : Int32)) % (10 : Int32))), .val (.int ((x3 &&& (2147483647 : Int32)) % (10 : Int32))), .val (.int (x0 &&& (3 : Int32))), .val (.int (((x5.toUInt32 >>> ((1 : Int32) &&& 31).toUInt32).toInt32) &&& (3 : Int32))), .val (.int (((x0.toUInt32 >>> ((2 : Int32) &&& 31).toUInt32).toInt32) &&& (255 : Int32))), .val (.int (((x0.toUInt32 >>> ((10 : Int32) &&& 31).toUInt32).toInt32) &&& (255 : Int32))), .val (.int (((x0.toUInt32 >>> ((18 : Int32) &&& 31).toUInt32).toInt32) &&& (255 : Int32))), .val (.int (x1 &&& (255 : Int32))), .unset, .unset, .unset, .unset, .unset, .unset, .unset, .unset] [])) (fun _ k => XS.istore X0.here hx rfl (hb hby at_65) rfl (l' := #[.val (.int x0), .val (.int x1), .val (.int x2), .val (.int x3), .val (.int x4), .val (.int x5), .val (.int ((x2 &&& (2147483647 : Int32)) % (10 : Int32))), .val (.int ((x3 &&& (2147483647 : Int32)) % (10 : Int32))), .val (.int (x0 &&& (3 : Int32))), .val (.int (((x5.toUInt32 >>> ((1 : Int32) &&& 31).toUInt32).toInt32) &&& (3 : Int32))), .val (.int (((x0.toUInt32 >>> ((2 : Int32) &&& 31).toUInt32).toInt32) &&& (255 : Int32))), .val (.int (((x0.toUInt32 >>> ((10 : Int32) &&& 31).toUInt32).toInt32) &&& (255 : Int32))), .val (.int (((x0.toUInt32 >>> ((18 : Int32) &&& 31).toUInt32).toInt32) &&& (255 : Int32))), .val (.int (x1 &&& (255 : Int32))), .unset, .unset, .unset, .unset, .unset, .unset, .unset, .unset]) rfl k) ?_
  refine Done.st (B := s₁.setTop (mkF m 68 #[.val (.int x0), .val (.int x1), .val (.int x2), .val (.int x3), .val (.int x4), .val (.int x5), .val (.int ((x2 &&& (2147483647 : Int32)) % (10 : Int32))), .val (.int ((x3 &&& (2147483647 : Int32)) % (10 : Int32))), .val (.int (x0 &&& (3 : Int32))), .val (.int (((x5.toUInt32 >>> ((1 : Int32) &&& 31).toUInt32).toInt32) &&& (3 : Int32))), .val (.int (((x0.toUInt32 >>> ((2 : Int32) &&& 31).toUInt32).toInt32) &&& (255 : Int32))), .val (.int (((x0.toUInt32 >>> ((10 : Int32) &&& 31).toUInt32).toInt32) &&& (255 : Int32))), .val (.int (((x0.toUInt32 >>> ((18 : Int32) &&& 31).toUInt32).toInt32) &&& (255 : Int32))), .val (.int (x1 &&& (255 : Int32))), .unset, .unset, .unset, .unset, .unset, .unset, .unset, .unset] [(.int x1)])) (fun _ k => XS.iloadN X0.here hx rfl (hb hby at_67) rfl k) ?_
  refine Done.st (B := s₁.setTop (mkF m 70 #[.val (.int x0), .val (.int x1), .val (.int x2), .val (.int x3), .val (.int x4), .val (.int x5), .val (.int ((x2 &&& (2147483647 : Int32)) % (10 : Int32))), .val (.int ((x3 &&& (2147483647 : Int32)) % (10 : Int32))), .val (.int (x0 &&& (3 : Int32))), .val (.int (((x5.toUInt32 >>> ((1 : Int32) &&& 31).toUInt32).toInt32) &&& (3 : Int32))), .val (.int (((x0.toUInt32 >>> ((2 : Int32) &&& 31).toUInt32).toInt32) &&& (255 : Int32))), .val (.int (((x0.toUInt32 >>> ((10 : Int32) &&& 31).toUInt32).toInt32) &&& (255 : Int32))), .val (.int (((x0.toUInt32 >>> ((18 : Int32) &&& 31).toUInt32).toInt32) &&& (255 : Int32))), .val (.int (x1 &&& (255 : Int32))), .unset, .unset, .unset, .unset, .unset, .unset, .unset, .unset] [(.int (8 : Int32)), (.int x1)])) (fun _ k => XS.bipush X0.here hx rfl (hb hby at_68) k) ?_
  refine Done.st (B := s₁.setTop (mkF m 71 #[.val (.int x0), .val (.int x1), .val (.int x2), .val (.int x3), .val (.int x4), .val (.int x5), .val (.int ((x2 &&& (2147483647 : Int32)) % (10 : Int32))), .val (.int ((x3 &&& (2147483647 : Int32)) % (10 : Int32))), .val (.int (x0 &&& (3 : Int32))), .val (.int (((x5.toUInt32 >>> ((1 : Int32) &&& 31).toUInt32).toInt32) &&& (3 : Int32))), .val (.int (((x0.toUInt32 >>> ((2 : Int32) &&& 31).toUInt32).toInt32) &&& (255 : Int32))), .val (.int (((x0.toUInt32 >>> ((10 : Int32) &&& 31).toUInt32).toInt32) &&& (255 : Int32))), .val (.int (((x0.toUInt32 >>> ((18 : Int32) &&& 31).toUInt32).toInt32) &&& (255 : Int32))), .val (.int (x1 &&& (255 : Int32))), .unset, .unset, .unset, .unset, .unset, .unset, .unset, .unset] [(.int ((x1.toUInt32 >>> ((8 : Int32) &&& 31).toUInt32).toInt32))])) (fun _ k => XS.iushr X0.here hx rfl (hb hby at_70) rfl k) ?_
  refine Done.st (B := s₁.setTop (mkF m 74 #[.val (.int x0), .val (.int x1), .val (.int x2), .val (.int x3), .val (.int x4), .val (.int x5), .val (.int ((x2 &&& (2147483647 : Int32)) % (10 : Int32))), .val (.int ((x3 &&& (2147483647 : Int32)) % (10 : Int32))), .val (.int (x0 &&& (3 : Int32))), .val (.int (((x5.toUInt32 >>> ((1 : Int32) &&& 31).toUInt32).toInt32) &&& (3 : Int32))), .val (.int (((x0.toUInt32 >>> ((2 : Int32) &&& 31).toUInt32).toInt32) &&& (255 : Int32))), .val (.int (((x0.toUInt32 >>> ((10 : Int32) &&& 31).toUInt32).toInt32) &&& (255 : Int32))), .val (.int (((x0.toUInt32 >>> ((18 : Int32) &&& 31).toUInt32).toInt32) &&& (255 : Int32))), .val (.int (x1 &&& (255 : Int32))), .unset, .unset, .unset, .unset, .unset, .unset, .unset, .unset] [(.int (255 : Int32)), (.int ((x1.toUInt32 >>> ((8 : Int32) &&& 31).toUInt32).toInt32))])) (fun _ k => XS.sipush X0.here hx rfl (hb hby at_71) k) ?_
  refine Done.st (B := s₁.setTop (mkF m 75 #[.val (.int x0), .val (.int x1), .val (.int x2), .val (.int x3), .val (.int x4), .val (.int x5), .val (.int ((x2 &&& (2147483647 : Int32)) % (10 : Int32))), .val (.int ((x3 &&& (2147483647 : Int32)) % (10 : Int32))), .val (.int (x0 &&& (3 : Int32))), .val (.int (((x5.toUInt32 >>> ((1 : Int32) &&& 31).toUInt32).toInt32) &&& (3 : Int32))), .val (.int (((x0.toUInt32 >>> ((2 : Int32) &&& 31).toUInt32).toInt32) &&& (255 : Int32))), .val (.int (((x0.toUInt32 >>> ((10 : Int32) &&& 31).toUInt32).toInt32) &&& (255 : Int32))), .val (.int (((x0.toUInt32 >>> ((18 : Int32) &&& 31).toUInt32).toInt32) &&& (255 : Int32))), .val (.int (x1 &&& (255 : Int32))), .unset, .unset, .unset, .unset, .unset, .unset, .unset, .unset] [(.int (((x1.toUInt32 >>> ((8 : Int32) &&& 31).toUInt32).toInt32) &&& (255 : Int32)))])) (fun _ k => XS.iand X0.here hx rfl (hb hby at_74) rfl k) ?_
  refine Done.st (B := s₁.setTop (mkF m 77 #[.val (.int x0), .val (.int x1), .val (.int x2), .val (.int x3), .val (.int x4), .val (.int x5), .val (.int ((x2 &&& (2147483647 : Int32)) % (10 : Int32))), .val (.int ((x3 &&& (2147483647 : Int32)) % (10 : Int32))), .val (.int (x0 &&& (3 : Int32))), .val (.int (((x5.toUInt32 >>> ((1 : Int32) &&& 31).toUInt32).toInt32) &&& (3 : Int32))), .val (.int (((x0.toUInt32 >>> ((2 : Int32) &&& 31).toUInt32).toInt32) &&& (255 : Int32))), .val (.int (((x0.toUInt32 >>> ((10 : Int32) &&& 31).toUInt32).toInt32) &&& (255 : Int32))), .val (.int (((x0.toUInt32 >>> ((18 : Int32) &&& 31).toUInt32).toInt32) &&& (255 : Int32))), .val (.int (x1 &&& (255 : Int32))), .val (.int (((x1.toUInt32 >>> ((8 : Int32) &&& 31).toUInt32).toInt32) &&& (255 : Int32))), .unset, .unset, .unset, .unset, .unset, .unset, .unset] [])) (fun _ k => XS.istore X0.here hx rfl (hb hby at_75) rfl (l' := #[.val (.int x0), .val (.int x1), .val (.int x2), .val (.int x3), .val (.int x4), .val (.int x5), .val (.int ((x2 &&& (2147483647 : Int32)) % (10 : Int32))), .val (.int ((x3 &&& (2147483647 : Int32)) % (10 : Int32))), .val (.int (x0 &&& (3 : Int32))), .val (.int (((x5.toUInt32 >>> ((1 : Int32) &&& 31).toUInt32).toInt32) &&& (3 : Int32))), .val (.int (((x0.toUInt32 >>> ((2 : Int32) &&& 31).toUInt32).toInt32) &&& (255 : Int32))), .val (.int (((x0.toUInt32 >>> ((10 : Int32) &&& 31).toUInt32).toInt32) &&& (255 : Int32))), .val (.int (((x0.toUInt32 >>> ((18 : Int32) &&& 31).toUInt32).toInt32) &&& (255 : Int32))), .val (.int (x1 &&& (255 : Int32))), .val (.int (((x1.toUInt32 >>> ((8 : Int32) &&& 31).toUInt32).toInt32) &&& (255 : Int32))), .unset, .unset, .unset, .unset, .unset, .unset, .unset]) rfl k) ?_
  refine Done.st (B := s₁.setTop (mkF m 78 #[.val (.int x0), .val (.int x1), .val (.int x2), .val (.int x3), .val (.int x4), .val (.int x5), .val (.int ((x2 &&& (2147483647 : Int32)) % (10 : Int32))), .val (.int ((x3 &&& (2147483647 : Int32)) % (10 : Int32))), .val (.int (x0 &&& (3 : Int32))), .val (.int (((x5.toUInt32 >>> ((1 : Int32) &&& 31).toUInt32).toInt32) &&& (3 : Int32))), .val (.int (((x0.toUInt32 >>> ((2 : Int32) &&& 31).toUInt32).toInt32) &&& (255 : Int32))), .val (.int (((x0.toUInt32 >>> ((10 : Int32) &&& 31).toUInt32).toInt32) &&& (255 : Int32))), .val (.int (((x0.toUInt32 >>> ((18 : Int32) &&& 31).toUInt32).toInt32) &&& (255 : Int32))), .val (.int (x1 &&& (255 : Int32))), .val (.int (((x1.toUInt32 >>> ((8 : Int32) &&& 31).toUInt32).toInt32) &&& (255 : Int32))), .unset, .unset, .unset, .unset, .unset, .unset, .unset] [(.int x1)])) (fun _ k => XS.iloadN X0.here hx rfl (hb hby at_77) rfl k) ?_
  refine Done.st (B := s₁.setTop (mkF m 80 #[.val (.int x0), .val (.int x1), .val (.int x2), .val (.int x3), .val (.int x4), .val (.int x5), .val (.int ((x2 &&& (2147483647 : Int32)) % (10 : Int32))), .val (.int ((x3 &&& (2147483647 : Int32)) % (10 : Int32))), .val (.int (x0 &&& (3 : Int32))), .val (.int (((x5.toUInt32 >>> ((1 : Int32) &&& 31).toUInt32).toInt32) &&& (3 : Int32))), .val (.int (((x0.toUInt32 >>> ((2 : Int32) &&& 31).toUInt32).toInt32) &&& (255 : Int32))), .val (.int (((x0.toUInt32 >>> ((10 : Int32) &&& 31).toUInt32).toInt32) &&& (255 : Int32))), .val (.int (((x0.toUInt32 >>> ((18 : Int32) &&& 31).toUInt32).toInt32) &&& (255 : Int32))), .val (.int (x1 &&& (255 : Int32))), .val (.int (((x1.toUInt32 >>> ((8 : Int32) &&& 31).toUInt32).toInt32) &&& (255 : Int32))), .unset, .unset, .unset, .unset, .unset, .unset, .unset] [(.int (16 : Int32)), (.int x1)])) (fun _ k => XS.bipush X0.here hx rfl (hb hby at_78) k) ?_
  refine Done.st (B := s₁.setTop (mkF m 81 #[.val (.int x0), .val (.int x1), .val (.int x2), .val (.int x3), .val (.int x4), .val (.int x5), .val (.int ((x2 &&& (2147483647 : Int32)) % (10 : Int32))), .val (.int ((x3 &&& (2147483647 : Int32)) % (10 : Int32))), .val (.int (x0 &&& (3 : Int32))), .val (.int (((x5.toUInt32 >>> ((1 : Int32) &&& 31).toUInt32).toInt32) &&& (3 : Int32))), .val (.int (((x0.toUInt32 >>> ((2 : Int32) &&& 31).toUInt32).toInt32) &&& (255 : Int32))), .val (.int (((x0.toUInt32 >>> ((10 : Int32) &&& 31).toUInt32).toInt32) &&& (255 : Int32))), .val (.int (((x0.toUInt32 >>> ((18 : Int32) &&& 31).toUInt32).toInt32) &&& (255 : Int32))), .val (.int (x1 &&& (255 : Int32))), .val (.int (((x1.toUInt32 >>> ((8 : Int32) &&& 31).toUInt32).toInt32) &&& (255 : Int32))), .unset, .unset, .unset, .unset, .unset, .unset, .unset] [(.int ((x1.toUInt32 >>> ((16 : Int32) &&& 31).toUInt32).toInt32))])) (fun _ k => XS.iushr X0.here hx rfl (hb hby at_80) rfl k) ?_
  refine Done.st (B := s₁.setTop (mkF m 84 #[.val (.int x0), .val (.int x1), .val (.int x2), .val (.int x3), .val (.int x4), .val (.int x5), .val (.int ((x2 &&& (2147483647 : Int32)) % (10 : Int32))), .val (.int ((x3 &&& (2147483647 : Int32)) % (10 : Int32))), .val (.int (x0 &&& (3 : Int32))), .val (.int (((x5.toUInt32 >>> ((1 : Int32) &&& 31).toUInt32).toInt32) &&& (3 : Int32))), .val (.int (((x0.toUInt32 >>> ((2 : Int32) &&& 31).toUInt32).toInt32) &&& (255 : Int32))), .val (.int (((x0.toUInt32 >>> ((10 : Int32) &&& 31).toUInt32).toInt32) &&& (255 : Int32))), .val (.int (((x0.toUInt32 >>> ((18 : Int32) &&& 31).toUInt32).toInt32) &&& (255 : Int32))), .val (.int (x1 &&& (255 : Int32))), .val (.int (((x1.toUInt32 >>> ((8 : Int32) &&& 31).toUInt32).toInt32) &&& (255 : Int32))), .unset, .unset, .unset, .unset, .unset, .unset, .unset] [(.int (255 : Int32)), (.int ((x1.toUInt32 >>> ((16 : Int32) &&& 31).toUInt32).toInt32))])) (fun _ k => XS.sipush X0.here hx rfl (hb hby at_81) k) ?_
  refine Done.st (B := s₁.setTop (mkF m 85 #[.val (.int x0), .val (.int x1), .val (.int x2), .val (.int x3), .val (.int x4), .val (.int x5), .val (.int ((x2 &&& (2147483647 : Int32)) % (10 : Int32))), .val (.int ((x3 &&& (2147483647 : Int32)) % (10 : Int32))), .val (.int (x0 &&& (3 : Int32))), .val (.int (((x5.toUInt32 >>> ((1 : Int32) &&& 31).toUInt32).toInt32) &&& (3 : Int32))), .val (.int (((x0.toUInt32 >>> ((2 : Int32) &&& 31).toUInt32).toInt32) &&& (255 : Int32))), .val (.int (((x0.toUInt32 >>> ((10 : Int32) &&& 31).toUInt32).toInt32) &&& (255 : Int32))), .val (.int (((x0.toUInt32 >>> ((18 : Int32) &&& 31).toUInt32).toInt32) &&& (255 : Int32))), .val (.int (x1 &&& (255 : Int32))), .val (.int (((x1.toUInt32 >>> ((8 : Int32) &&& 31).toUInt32).toInt32) &&& (255 : Int32))), .unset, .unset, .unset, .unset, .unset, .unset, .unset] [(.int (((x1.toUInt32 >>> ((16 : Int32) &&& 31).toUInt32).toInt32) &&& (255 : Int32)))])) (fun _ k => XS.iand X0.here hx rfl (hb hby at_84) rfl k) ?_
  have j87 : ∀ (i : Int32) (j : Int32) (la : Int32) (lb : Int32) (cc0 : Int32) (cc1 : Int32) (cc2 : Int32) (dd0 : Int32) (dd1 : Int32) (dd2 : Int32) (h_i : own_in10 i) (h_j : own_in10 j) (h_la : own_in4 la) (h_lb : own_in4 lb) (h_c0 : own_b8 cc0) (h_c1 : own_b8 cc1) (h_c2 : own_b8 cc2) (h_d0 : own_b8 dd0) (h_d1 : own_b8 dd1) (h_d2 : own_b8 dd2), Done p e below (Prm0 s Z x0 x1 x2 x3 x4 x5 w_INTEGER w_IDENTIFIER w_PUNCTUATION w_END w_ALIAS w_BODY w_ABORT w_HEADER w_STRING w_EOF z h0 n0) (s₁.setTop (mkF m 87 #[.val (.int x0), .val (.int x1), .val (.int x2), .val (.int x3), .val (.int x4), .val (.int x5), .val (.int i), .val (.int j), .val (.int la), .val (.int lb), .val (.int cc0), .val (.int cc1), .val (.int cc2), .val (.int dd0), .val (.int dd1), .val (.int dd2), .unset, .unset, .unset, .unset, .unset, .unset] [])) := by
    intro i j la lb cc0 cc1 cc2 dd0 dd1 dd2 h_i h_j h_la h_lb h_c0 h_c1 h_c2 h_d0 h_d1 h_d2
    refine Done.st (B := s₁.setTop (mkF m 89 #[.val (.int x0), .val (.int x1), .val (.int x2), .val (.int x3), .val (.int x4), .val (.int x5), .val (.int i), .val (.int j), .val (.int la), .val (.int lb), .val (.int cc0), .val (.int cc1), .val (.int cc2), .val (.int dd0), .val (.int dd1), .val (.int dd2), .unset, .unset, .unset, .unset, .unset, .unset] [(.int x5)])) (fun _ k => XS.iload X0.here hx rfl (hb hby at_87) rfl k) ?_
    refine Done.st (B := s₁.setTop (mkF m 91 #[.val (.int x0), .val (.int x1), .val (.int x2), .val (.int x3), .val (.int x4), .val (.int x5), .val (.int i), .val (.int j), .val (.int la), .val (.int lb), .val (.int cc0), .val (.int cc1), .val (.int cc2), .val (.int dd0), .val (.int dd1), .val (.int dd2), .unset, .unset, .unset, .unset, .unset, .unset] [(.int (24 : Int32)), (.int x5)])) (fun _ k => XS.bipush X0.here hx rfl (hb hby at_89) k) ?_
    refine Done.st (B := s₁.setTop (mkF m 92 #[.val (.int x0), .val (.int x1), .val (.int x2), .val (.int x3), .val (.int x4), .val (.int x5), .val (.int i), .val (.int j), .val (.int la), .val (.int lb), .val (.int cc0), .val (.int cc1), .val (.int cc2), .val (.int dd0), .val (.int dd1), .val (.int dd2), .unset, .unset, .unset, .unset, .unset, .unset] [(.int (x5 &&& (24 : Int32)))])) (fun _ k => XS.iand X0.here hx rfl (hb hby at_91) rfl k) ?_
    refine Done.st (B := s₁.setTop (mkF m 94 #[.val (.int x0), .val (.int x1), .val (.int x2), .val (.int x3), .val (.int x4), .val (.int x5), .val (.int i), .val (.int j), .val (.int la), .val (.int lb), .val (.int cc0), .val (.int cc1), .val (.int cc2), .val (.int dd0), .val (.int dd1), .val (.int dd2), .unset, .unset, .unset, .unset, .unset, .unset] [(.int (24 : Int32)), (.int (x5 &&& (24 : Int32)))])) (fun _ k => XS.bipush X0.here hx rfl (hb hby at_92) k) ?_
    by_cases hc94 : (x5 &&& (24 : Int32)) = (24 : Int32)
    · refine Done.st (B := s₁.setTop (mkF m 97 #[.val (.int x0), .val (.int x1), .val (.int x2), .val (.int x3), .val (.int x4), .val (.int x5), .val (.int i), .val (.int j), .val (.int la), .val (.int lb), .val (.int cc0), .val (.int cc1), .val (.int cc2), .val (.int dd0), .val (.int dd1), .val (.int dd2), .unset, .unset, .unset, .unset, .unset, .unset] [])) (fun _ k => XS.icmpNo X0.here hx rfl (hb hby at_94) rfl (teq hc94).2 k) ?_
      refine Done.st (B := s₁.setTop (mkF m 98 #[.val (.int x0), .val (.int x1), .val (.int x2), .val (.int x3), .val (.int x4), .val (.int x5), .val (.int i), .val (.int j), .val (.int la), .val (.int lb), .val (.int cc0), .val (.int cc1), .val (.int cc2), .val (.int dd0), .val (.int dd1), .val (.int dd2), .unset, .unset, .unset, .unset, .unset, .unset] [(.int (1 : Int32))])) (fun _ k => XS.iconst X0.here hx rfl (hb hby at_97) k) ?_
      refine Done.st (B := s₁.setTop (mkF m 102 #[.val (.int x0), .val (.int x1), .val (.int x2), .val (.int x3), .val (.int x4), .val (.int x5), .val (.int i), .val (.int j), .val (.int la), .val (.int lb), .val (.int cc0), .val (.int cc1), .val (.int cc2), .val (.int dd0), .val (.int dd1), .val (.int dd2), .unset, .unset, .unset, .unset, .unset, .unset] [(.int (1 : Int32))])) (fun _ k => XS.goto X0.here hx rfl (pc0 := 98) (pc' := 102) rfl (hb hby at_98) (by decide) (by decide) k) ?_
      refine Done.st (B := s₁.setTop (mkF m 104 #[.val (.int x0), .val (.int x1), .val (.int x2), .val (.int x3), .val (.int x4), .val (.int x5), .val (.int i), .val (.int j), .val (.int la), .val (.int lb), .val (.int cc0), .val (.int cc1), .val (.int cc2), .val (.int dd0), .val (.int dd1), .val (.int dd2), .val (.int (1 : Int32)), .unset, .unset, .unset, .unset, .unset] [])) (fun _ k => XS.istore X0.here hx rfl (hb hby at_102) rfl (l' := #[.val (.int x0), .val (.int x1), .val (.int x2), .val (.int x3), .val (.int x4), .val (.int x5), .val (.int i), .val (.int j), .val (.int la), .val (.int lb), .val (.int cc0), .val (.int cc1), .val (.int cc2), .val (.int dd0), .val (.int dd1), .val (.int dd2), .val (.int (1 : Int32)), .unset, .unset, .unset, .unset, .unset]) rfl k) ?_
      refine Done.st (B := s₁.setTop (mkF m 106 #[.val (.int x0), .val (.int x1), .val (.int x2), .val (.int x3), .val (.int x4), .val (.int x5), .val (.int i), .val (.int j), .val (.int la), .val (.int lb), .val (.int cc0), .val (.int cc1), .val (.int cc2), .val (.int dd0), .val (.int dd1), .val (.int dd2), .val (.int (1 : Int32)), .unset, .unset, .unset, .unset, .unset] [(.int la)])) (fun _ k => XS.iload X0.here hx rfl (hb hby at_104) rfl k) ?_
      refine Done.st (B := s₁.setTop (mkF m 108 #[.val (.int x0), .val (.int x1), .val (.int x2), .val (.int x3), .val (.int x4), .val (.int x5), .val (.int i), .val (.int j), .val (.int la), .val (.int lb), .val (.int cc0), .val (.int cc1), .val (.int cc2), .val (.int dd0), .val (.int dd1), .val (.int dd2), .val (.int (1 : Int32)), .unset, .unset, .unset, .unset, .unset] [(.int cc0), (.int la)])) (fun _ k => XS.iload X0.here hx rfl (hb hby at_106) rfl k) ?_
      refine Done.st (B := s₁.setTop (mkF m 109 #[.val (.int x0), .val (.int x1), .val (.int x2), .val (.int x3), .val (.int x4), .val (.int x5), .val (.int i), .val (.int j), .val (.int la), .val (.int lb), .val (.int cc0), .val (.int cc1), .val (.int cc2), .val (.int dd0), .val (.int dd1), .val (.int dd2), .val (.int (1 : Int32)), .unset, .unset, .unset, .unset, .unset] [(.int (cc0.toUInt32.toUInt16.toUInt32.toInt32)), (.int la)])) (fun _ k => XS.i2c X0.here hx rfl (hb hby at_108) rfl k) ?_
      refine Done.st (B := s₁.setTop (mkF m 111 #[.val (.int x0), .val (.int x1), .val (.int x2), .val (.int x3), .val (.int x4), .val (.int x5), .val (.int i), .val (.int j), .val (.int la), .val (.int lb), .val (.int cc0), .val (.int cc1), .val (.int cc2), .val (.int dd0), .val (.int dd1), .val (.int dd2), .val (.int (1 : Int32)), .unset, .unset, .unset, .unset, .unset] [(.int cc1), (.int (cc0.toUInt32.toUInt16.toUInt32.toInt32)), (.int la)])) (fun _ k => XS.iload X0.here hx rfl (hb hby at_109) rfl k) ?_
      refine Done.st (B := s₁.setTop (mkF m 112 #[.val (.int x0), .val (.int x1), .val (.int x2), .val (.int x3), .val (.int x4), .val (.int x5), .val (.int i), .val (.int j), .val (.int la), .val (.int lb), .val (.int cc0), .val (.int cc1), .val (.int cc2), .val (.int dd0), .val (.int dd1), .val (.int dd2), .val (.int (1 : Int32)), .unset, .unset, .unset, .unset, .unset] [(.int (cc1.toUInt32.toUInt16.toUInt32.toInt32)), (.int (cc0.toUInt32.toUInt16.toUInt32.toInt32)), (.int la)])) (fun _ k => XS.i2c X0.here hx rfl (hb hby at_111) rfl k) ?_
      refine Done.st (B := s₁.setTop (mkF m 114 #[.val (.int x0), .val (.int x1), .val (.int x2), .val (.int x3), .val (.int x4), .val (.int x5), .val (.int i), .val (.int j), .val (.int la), .val (.int lb), .val (.int cc0), .val (.int cc1), .val (.int cc2), .val (.int dd0), .val (.int dd1), .val (.int dd2), .val (.int (1 : Int32)), .unset, .unset, .unset, .unset, .unset] [(.int cc2), (.int (cc1.toUInt32.toUInt16.toUInt32.toInt32)), (.int (cc0.toUInt32.toUInt16.toUInt32.toInt32)), (.int la)])) (fun _ k => XS.iload X0.here hx rfl (hb hby at_112) rfl k) ?_
      refine Done.st (B := s₁.setTop (mkF m 115 #[.val (.int x0), .val (.int x1), .val (.int x2), .val (.int x3), .val (.int x4), .val (.int x5), .val (.int i), .val (.int j), .val (.int la), .val (.int lb), .val (.int cc0), .val (.int cc1), .val (.int cc2), .val (.int dd0), .val (.int dd1), .val (.int dd2), .val (.int (1 : Int32)), .unset, .unset, .unset, .unset, .unset] [(.int (cc2.toUInt32.toUInt16.toUInt32.toInt32)), (.int (cc1.toUInt32.toUInt16.toUInt32.toInt32)), (.int (cc0.toUInt32.toUInt16.toUInt32.toInt32)), (.int la)])) (fun _ k => XS.i2c X0.here hx rfl (hb hby at_114) rfl k) ?_
      obtain ⟨_, _, ⟨T1, L1, k1, n1⟩, -, X1, hs1, hg1, ⟨Lc1, hQ1, l1, y1, z1, cr1⟩, st1⟩ := callSS X0 hx (y := (⟨"com/example/libbuchi/libbuchi/automaton/TokenIsPinLaw", "build", "(ICCC)Ljava/lang/String;"⟩ : MethodName)) hown (mvT hZ (hw _ (List.mem_of_getElem? (i := 1) rfl))) (mvT hZ (hw _ (List.mem_of_getElem? (i := 2) rfl))) (mvT hZ (hw _ (List.mem_of_getElem? (i := 3) rfl))) (mvT hZ (hw _ (List.mem_of_getElem? (i := 4) rfl))) (by decide) (backOfSH (W := 0) (rmB l Z a0 hw [] la (cc0.toUInt32.toUInt16.toUInt32.toInt32) (cc1.toUInt32.toUInt16.toUInt32.toInt32) (cc2.toUInt32.toUInt16.toUInt32.toInt32) z h0 n0 Z0 S_z hz (own_icok h_c0) (own_icok h_c1) (own_icok h_c2)) hZ (hw _ (List.mem_of_getElem? (i := 4) rfl)) (hw _ (List.mem_of_getElem? (i := 3) rfl)) (by decide) (by decide) hEL hC0) (g := (mkF m 115 #[.val (.int x0), .val (.int x1), .val (.int x2), .val (.int x3), .val (.int x4), .val (.int x5), .val (.int i), .val (.int j), .val (.int la), .val (.int lb), .val (.int cc0), .val (.int cc1), .val (.int cc2), .val (.int dd0), .val (.int dd1), .val (.int dd2), .val (.int (1 : Int32)), .unset, .unset, .unset, .unset, .unset] [(.int (cc2.toUInt32.toUInt16.toUInt32.toInt32)), (.int (cc1.toUInt32.toUInt16.toUInt32.toInt32)), (.int (cc0.toUInt32.toUInt16.toUInt32.toInt32)), (.int la)])) rfl (by rw [hml]; rfl) (argsL := [(.int la), (.int (cc0.toUInt32.toUInt16.toUInt32.toInt32)), (.int (cc1.toUInt32.toUInt16.toUInt32.toInt32)), (.int (cc2.toUInt32.toUInt16.toUInt32.toInt32))]) (rest := []) (lenOf pd_3 rfl) rfl (by show 2 * 0 + _ ≤ _; exact Nat.le_of_eq rfl) (hb hby at_115) (fun _ _ => ⟨rfl, e0, (by decide : 0 + 4 ≤ _), (by decide : 0 + 10 ≤ _)⟩)
      dsimp only [Pt.U, Pt.locs, Pt.cells, Pt.slots] at X1 l1 y1 z1 st1 hQ1 hs1 hg1 cr1
      subst l1 y1 z1
      obtain ⟨X1, hS1, hZ, hown⟩ := rebS hS0 (by rw [e0]; exact hk0) X1 hs1 hg1 hZ hown
      have R1 := R0.trans cr1
      have C1 := cr1.1
      have hk1 := Nat.le_refl T1.heap.size
      obtain ⟨s115, rfl, N1q, sz1, K1, f1_0⟩ := hQ1
      have N1 := Fr.app N0 N1q
      have ge_s115 : n0 ≤ s115 := Nat.le_trans Z0 sz1
      have Z1 : n0 ≤ T1.heap.size := Nat.le_trans Z0 K1.1
      refine Done.st (B := T1.setTop (mkF m 118 #[.val (.int x0), .val (.int x1), .val (.int x2), .val (.int x3), .val (.int x4), .val (.int x5), .val (.int i), .val (.int j), .val (.int la), .val (.int lb), .val (.int cc0), .val (.int cc1), .val (.int cc2), .val (.int dd0), .val (.int dd1), .val (.int dd2), .val (.int (1 : Int32)), .unset, .unset, .unset, .unset, .unset] [(.ref s115)])) (fun _ k => st1.trans k) ?_
      refine Done.st (B := T1.setTop (mkF m 120 #[.val (.int x0), .val (.int x1), .val (.int x2), .val (.int x3), .val (.int x4), .val (.int x5), .val (.int i), .val (.int j), .val (.int la), .val (.int lb), .val (.int cc0), .val (.int cc1), .val (.int cc2), .val (.int dd0), .val (.int dd1), .val (.int dd2), .val (.int (1 : Int32)), .val (.ref s115), .unset, .unset, .unset, .unset] [])) (fun _ k => XS.astore X1.here hx rfl (hb hby at_118) rfl rfl (l' := #[.val (.int x0), .val (.int x1), .val (.int x2), .val (.int x3), .val (.int x4), .val (.int x5), .val (.int i), .val (.int j), .val (.int la), .val (.int lb), .val (.int cc0), .val (.int cc1), .val (.int cc2), .val (.int dd0), .val (.int dd1), .val (.int dd2), .val (.int (1 : Int32)), .val (.ref s115), .unset, .unset, .unset, .unset]) rfl k) ?_
      refine Done.st (B := T1.setTop (mkF m 122 #[.val (.int x0), .val (.int x1), .val (.int x2), .val (.int x3), .val (.int x4), .val (.int x5), .val (.int i), .val (.int j), .val (.int la), .val (.int lb), .val (.int cc0), .val (.int cc1), .val (.int cc2), .val (.int dd0), .val (.int dd1), .val (.int dd2), .val (.int (1 : Int32)), .val (.ref s115), .unset, .unset, .unset, .unset] [(.int lb)])) (fun _ k => XS.iload X1.here hx rfl (hb hby at_120) rfl k) ?_
      refine Done.st (B := T1.setTop (mkF m 124 #[.val (.int x0), .val (.int x1), .val (.int x2), .val (.int x3), .val (.int x4), .val (.int x5), .val (.int i), .val (.int j), .val (.int la), .val (.int lb), .val (.int cc0), .val (.int cc1), .val (.int cc2), .val (.int dd0), .val (.int dd1), .val (.int dd2), .val (.int (1 : Int32)), .val (.ref s115), .unset, .unset, .unset, .unset] [(.int cc0), (.int lb)])) (fun _ k => XS.iload X1.here hx rfl (hb hby at_122) rfl k) ?_
      refine Done.st (B := T1.setTop (mkF m 126 #[.val (.int x0), .val (.int x1), .val (.int x2), .val (.int x3), .val (.int x4), .val (.int x5), .val (.int i), .val (.int j), .val (.int la), .val (.int lb), .val (.int cc0), .val (.int cc1), .val (.int cc2), .val (.int dd0), .val (.int dd1), .val (.int dd2), .val (.int (1 : Int32)), .val (.ref s115), .unset, .unset, .unset, .unset] [(.int dd0), (.int cc0), (.int lb)])) (fun _ k => XS.iload X1.here hx rfl (hb hby at_124) rfl k) ?_
      refine Done.st (B := T1.setTop (mkF m 127 #[.val (.int x0), .val (.int x1), .val (.int x2), .val (.int x3), .val (.int x4), .val (.int x5), .val (.int i), .val (.int j), .val (.int la), .val (.int lb), .val (.int cc0), .val (.int cc1), .val (.int cc2), .val (.int dd0), .val (.int dd1), .val (.int dd2), .val (.int (1 : Int32)), .val (.ref s115), .unset, .unset, .unset, .unset] [(.int (cc0 ^^^ dd0)), (.int lb)])) (fun _ k => XS.ixor X1.here hx rfl (hb hby at_126) rfl k) ?_
      refine Done.st (B := T1.setTop (mkF m 128 #[.val (.int x0), .val (.int x1), .val (.int x2), .val (.int x3), .val (.int x4), .val (.int x5), .val (.int i), .val (.int j), .val (.int la), .val (.int lb), .val (.int cc0), .val (.int cc1), .val (.int cc2), .val (.int dd0), .val (.int dd1), .val (.int dd2), .val (.int (1 : Int32)), .val (.ref s115), .unset, .unset, .unset, .unset] [(.int ((cc0 ^^^ dd0).toUInt32.toUInt16.toUInt32.toInt32)), (.int lb)])) (fun _ k => XS.i2c X1.here hx rfl (hb hby at_127) rfl k) ?_
      refine Done.st (B := T1.setTop (mkF m 130 #[.val (.int x0), .val (.int x1), .val (.int x2), .val (.int x3), .val (.int x4), .val (.int x5), .val (.int i), .val (.int j), .val (.int la), .val (.int lb), .val (.int cc0), .val (.int cc1), .val (.int cc2), .val (.int dd0), .val (.int dd1), .val (.int dd2), .val (.int (1 : Int32)), .val (.ref s115), .unset, .unset, .unset, .unset] [(.int cc1), (.int ((cc0 ^^^ dd0).toUInt32.toUInt16.toUInt32.toInt32)), (.int lb)])) (fun _ k => XS.iload X1.here hx rfl (hb hby at_128) rfl k) ?_
      refine Done.st (B := T1.setTop (mkF m 132 #[.val (.int x0), .val (.int x1), .val (.int x2), .val (.int x3), .val (.int x4), .val (.int x5), .val (.int i), .val (.int j), .val (.int la), .val (.int lb), .val (.int cc0), .val (.int cc1), .val (.int cc2), .val (.int dd0), .val (.int dd1), .val (.int dd2), .val (.int (1 : Int32)), .val (.ref s115), .unset, .unset, .unset, .unset] [(.int dd1), (.int cc1), (.int ((cc0 ^^^ dd0).toUInt32.toUInt16.toUInt32.toInt32)), (.int lb)])) (fun _ k => XS.iload X1.here hx rfl (hb hby at_130) rfl k) ?_
      refine Done.st (B := T1.setTop (mkF m 133 #[.val (.int x0), .val (.int x1), .val (.int x2), .val (.int x3), .val (.int x4), .val (.int x5), .val (.int i), .val (.int j), .val (.int la), .val (.int lb), .val (.int cc0), .val (.int cc1), .val (.int cc2), .val (.int dd0), .val (.int dd1), .val (.int dd2), .val (.int (1 : Int32)), .val (.ref s115), .unset, .unset, .unset, .unset] [(.int (cc1 ^^^ dd1)), (.int ((cc0 ^^^ dd0).toUInt32.toUInt16.toUInt32.toInt32)), (.int lb)])) (fun _ k => XS.ixor X1.here hx rfl (hb hby at_132) rfl k) ?_
      refine Done.st (B := T1.setTop (mkF m 134 #[.val (.int x0), .val (.int x1), .val (.int x2), .val (.int x3), .val (.int x4), .val (.int x5), .val (.int i), .val (.int j), .val (.int la), .val (.int lb), .val (.int cc0), .val (.int cc1), .val (.int cc2), .val (.int dd0), .val (.int dd1), .val (.int dd2), .val (.int (1 : Int32)), .val (.ref s115), .unset, .unset, .unset, .unset] [(.int ((cc1 ^^^ dd1).toUInt32.toUInt16.toUInt32.toInt32)), (.int ((cc0 ^^^ dd0).toUInt32.toUInt16.toUInt32.toInt32)), (.int lb)])) (fun _ k => XS.i2c X1.here hx rfl (hb hby at_133) rfl k) ?_
      refine Done.st (B := T1.setTop (mkF m 136 #[.val (.int x0), .val (.int x1), .val (.int x2), .val (.int x3), .val (.int x4), .val (.int x5), .val (.int i), .val (.int j), .val (.int la), .val (.int lb), .val (.int cc0), .val (.int cc1), .val (.int cc2), .val (.int dd0), .val (.int dd1), .val (.int dd2), .val (.int (1 : Int32)), .val (.ref s115), .unset, .unset, .unset, .unset] [(.int cc2), (.int ((cc1 ^^^ dd1).toUInt32.toUInt16.toUInt32.toInt32)), (.int ((cc0 ^^^ dd0).toUInt32.toUInt16.toUInt32.toInt32)), (.int lb)])) (fun _ k => XS.iload X1.here hx rfl (hb hby at_134) rfl k) ?_
      refine Done.st (B := T1.setTop (mkF m 138 #[.val (.int x0), .val (.int x1), .val (.int x2), .val (.int x3), .val (.int x4), .val (.int x5), .val (.int i), .val (.int j), .val (.int la), .val (.int lb), .val (.int cc0), .val (.int cc1), .val (.int cc2), .val (.int dd0), .val (.int dd1), .val (.int dd2), .val (.int (1 : Int32)), .val (.ref s115), .unset, .unset, .unset, .unset] [(.int dd2), (.int cc2), (.int ((cc1 ^^^ dd1).toUInt32.toUInt16.toUInt32.toInt32)), (.int ((cc0 ^^^ dd0).toUInt32.toUInt16.toUInt32.toInt32)), (.int lb)])) (fun _ k => XS.iload X1.here hx rfl (hb hby at_136) rfl k) ?_
      refine Done.st (B := T1.setTop (mkF m 139 #[.val (.int x0), .val (.int x1), .val (.int x2), .val (.int x3), .val (.int x4), .val (.int x5), .val (.int i), .val (.int j), .val (.int la), .val (.int lb), .val (.int cc0), .val (.int cc1), .val (.int cc2), .val (.int dd0), .val (.int dd1), .val (.int dd2), .val (.int (1 : Int32)), .val (.ref s115), .unset, .unset, .unset, .unset] [(.int (cc2 ^^^ dd2)), (.int ((cc1 ^^^ dd1).toUInt32.toUInt16.toUInt32.toInt32)), (.int ((cc0 ^^^ dd0).toUInt32.toUInt16.toUInt32.toInt32)), (.int lb)])) (fun _ k => XS.ixor X1.here hx rfl (hb hby at_138) rfl k) ?_
      refine Done.st (B := T1.setTop (mkF m 140 #[.val (.int x0), .val (.int x1), .val (.int x2), .val (.int x3), .val (.int x4), .val (.int x5), .val (.int i), .val (.int j), .val (.int la), .val (.int lb), .val (.int cc0), .val (.int cc1), .val (.int cc2), .val (.int dd0), .val (.int dd1), .val (.int dd2), .val (.int (1 : Int32)), .val (.ref s115), .unset, .unset, .unset, .unset] [(.int ((cc2 ^^^ dd2).toUInt32.toUInt16.toUInt32.toInt32)), (.int ((cc1 ^^^ dd1).toUInt32.toUInt16.toUInt32.toInt32)), (.int ((cc0 ^^^ dd0).toUInt32.toUInt16.toUInt32.toInt32)), (.int lb)])) (fun _ k => XS.i2c X1.here hx rfl (hb hby at_139) rfl k) ?_
      have c2 := (own_sta_keep S_z K1 all0)
      obtain ⟨_, _, ⟨T3, L3, k3, n3⟩, -, X3, hs3, hg3, ⟨Lc3, hQ3, l3, y3, z3, cr3⟩, st3⟩ := callSS X1 hx (y := (⟨"com/example/libbuchi/libbuchi/automaton/TokenIsPinLaw", "build", "(ICCC)Ljava/lang/String;"⟩ : MethodName)) hown (mvT hZ (hw _ (List.mem_of_getElem? (i := 1) rfl))) (mvT hZ (hw _ (List.mem_of_getElem? (i := 2) rfl))) (mvT hZ (hw _ (List.mem_of_getElem? (i := 3) rfl))) (mvT hZ (hw _ (List.mem_of_getElem? (i := 4) rfl))) (by decide) (backOfSH (W := 0) (rmB l Z a0 hw [] lb ((cc0 ^^^ dd0).toUInt32.toUInt16.toUInt32.toInt32) ((cc1 ^^^ dd1).toUInt32.toUInt16.toUInt32.toInt32) ((cc2 ^^^ dd2).toUInt32.toUInt16.toUInt32.toInt32) z T1.heap n0 Z1 c2 hz (own_icok (own_x8 h_c0 h_d0)) (own_icok (own_x8 h_c1 h_d1)) (own_icok (own_x8 h_c2 h_d2))) hZ (hw _ (List.mem_of_getElem? (i := 4) rfl)) (hw _ (List.mem_of_getElem? (i := 3) rfl)) (by decide) (by decide) hEL C1) (g := (mkF m 140 #[.val (.int x0), .val (.int x1), .val (.int x2), .val (.int x3), .val (.int x4), .val (.int x5), .val (.int i), .val (.int j), .val (.int la), .val (.int lb), .val (.int cc0), .val (.int cc1), .val (.int cc2), .val (.int dd0), .val (.int dd1), .val (.int dd2), .val (.int (1 : Int32)), .val (.ref s115), .unset, .unset, .unset, .unset] [(.int ((cc2 ^^^ dd2).toUInt32.toUInt16.toUInt32.toInt32)), (.int ((cc1 ^^^ dd1).toUInt32.toUInt16.toUInt32.toInt32)), (.int ((cc0 ^^^ dd0).toUInt32.toUInt16.toUInt32.toInt32)), (.int lb)])) rfl (by rw [hml]; rfl) (argsL := [(.int lb), (.int ((cc0 ^^^ dd0).toUInt32.toUInt16.toUInt32.toInt32)), (.int ((cc1 ^^^ dd1).toUInt32.toUInt16.toUInt32.toInt32)), (.int ((cc2 ^^^ dd2).toUInt32.toUInt16.toUInt32.toInt32))]) (rest := []) (lenOf pd_3 rfl) rfl (by show 2 * 0 + _ ≤ _; exact Nat.le_of_eq rfl) (hb hby at_140) (fun _ _ => ⟨rfl, rfl, (by decide : 4 + 4 ≤ _), (by decide : 10 + 10 ≤ _)⟩)
      dsimp only [Pt.U, Pt.locs, Pt.cells, Pt.slots] at X3 l3 y3 z3 st3 hQ3 hs3 hg3 cr3
      subst l3 y3 z3
      obtain ⟨X3, hS3, hZ, hown⟩ := rebS hS1 hk1 X3 hs3 hg3 hZ hown
      have R3 := R1.trans cr3
      have C3 := cr3.1
      have hk3 := Nat.le_refl T3.heap.size
      obtain ⟨s140, rfl, N3q, sz3, K3, f3_0⟩ := hQ3
      have N3 := Fr.app N1 N3q
      have ne_s115_s140 : s115 ≠ s140 := Nat.ne_of_lt (Nat.lt_of_lt_of_le f1_0.lt sz3)
      have ge_s140 : n0 ≤ s140 := Nat.le_trans Z1 sz3
      have Z3 : n0 ≤ T3.heap.size := Nat.le_trans Z1 K3.1
      refine Done.st (B := T3.setTop (mkF m 143 #[.val (.int x0), .val (.int x1), .val (.int x2), .val (.int x3), .val (.int x4), .val (.int x5), .val (.int i), .val (.int j), .val (.int la), .val (.int lb), .val (.int cc0), .val (.int cc1), .val (.int cc2), .val (.int dd0), .val (.int dd1), .val (.int dd2), .val (.int (1 : Int32)), .val (.ref s115), .unset, .unset, .unset, .unset] [(.ref s140)])) (fun _ k => st3.trans k) ?_
      refine Done.st (B := T3.setTop (mkF m 145 #[.val (.int x0), .val (.int x1), .val (.int x2), .val (.int x3), .val (.int x4), .val (.int x5), .val (.int i), .val (.int j), .val (.int la), .val (.int lb), .val (.int cc0), .val (.int cc1), .val (.int cc2), .val (.int dd0), .val (.int dd1), .val (.int dd2), .val (.int (1 : Int32)), .val (.ref s115), .val (.ref s140), .unset, .unset, .unset] [])) (fun _ k => XS.astore X3.here hx rfl (hb hby at_143) rfl rfl (l' := #[.val (.int x0), .val (.int x1), .val (.int x2), .val (.int x3), .val (.int x4), .val (.int x5), .val (.int i), .val (.int j), .val (.int la), .val (.int lb), .val (.int cc0), .val (.int cc1), .val (.int cc2), .val (.int dd0), .val (.int dd1), .val (.int dd2), .val (.int (1 : Int32)), .val (.ref s115), .val (.ref s140), .unset, .unset, .unset]) rfl k) ?_
      obtain ⟨T4, h4, X4, e4, E4, A4, D4, -, st4⟩ := newO X3 hx hZ hown (hw _ (List.mem_of_getElem? (i := 38) rfl)) (hw _ (List.mem_of_getElem? (i := 39) rfl)) (hw _ (List.mem_of_getElem? (i := 40) rfl)) rfl (g := (mkF m 145 #[.val (.int x0), .val (.int x1), .val (.int x2), .val (.int x3), .val (.int x4), .val (.int x5), .val (.int i), .val (.int j), .val (.int la), .val (.int lb), .val (.int cc0), .val (.int cc1), .val (.int cc2), .val (.int dd0), .val (.int dd1), .val (.int dd2), .val (.int (1 : Int32)), .val (.ref s115), .val (.ref s140), .unset, .unset, .unset] [])) rfl (hb hby at_145) (by decide) (by decide)
      have c5 := (f1_0.keep K3 nin0 all0)
      obtain ⟨b4, g4⟩ : ∃ z, z = T3.heap.size := ⟨_, rfl⟩
      rw [← g4] at A4 D4 st4
      have ne_s115_b4 : s115 ≠ b4 := Nat.ne_of_lt (Nat.lt_of_lt_of_le c5.lt (Nat.le_of_eq g4.symm))
      have ne_s140_b4 : s140 ≠ b4 := Nat.ne_of_lt (Nat.lt_of_lt_of_le f3_0.lt (Nat.le_of_eq g4.symm))
      have ge_b4 : n0 ≤ b4 := Nat.le_trans Z3 (Nat.le_of_eq g4.symm)
      have Z4 : n0 ≤ h4.size := Nat.le_trans Z3 E4.1
      have F4_kind : Fld Z h4 b4 "com/example/libbuchi/libbuchi/automaton/HoaTokenizer$Token" "kind" "Lcom/example/libbuchi/libbuchi/automaton/HoaTokenizer$Kind;" .null := D4 (Or.inr (hw _ (List.mem_of_getElem? (i := 52) rfl))) (ty := (.object "com/example/libbuchi/libbuchi/automaton/HoaTokenizer$Kind")) (by decide)
      have F4_text : Fld Z h4 b4 "com/example/libbuchi/libbuchi/automaton/HoaTokenizer$Token" "text" "Ljava/lang/String;" .null := D4 (Or.inr (hw _ (List.mem_of_getElem? (i := 54) rfl))) (ty := (.object "java/lang/String")) (by decide)
      have F4_line : Fld Z h4 b4 "com/example/libbuchi/libbuchi/automaton/HoaTokenizer$Token" "line" "I" (.int (0 : Int32)) := D4 (Or.inr (hw _ (List.mem_of_getElem? (i := 56) rfl))) (ty := .int) (by decide)
      have C4 := CHv.ext E4 C3
      have R4 := R3.trans (CHr.ext E4 C3)
      have hk4 := Nat.le_trans hk3 E4.1
      refine Done.st (B := T4.setTop (mkF m 148 #[.val (.int x0), .val (.int x1), .val (.int x2), .val (.int x3), .val (.int x4), .val (.int x5), .val (.int i), .val (.int j), .val (.int la), .val (.int lb), .val (.int cc0), .val (.int cc1), .val (.int cc2), .val (.int dd0), .val (.int dd1), .val (.int dd2), .val (.int (1 : Int32)), .val (.ref s115), .val (.ref s140), .unset, .unset, .unset] [(.ref b4)])) (fun _ k => st4 _ k) ?_
      refine Done.st (B := T4.setTop (mkF m 149 #[.val (.int x0), .val (.int x1), .val (.int x2), .val (.int x3), .val (.int x4), .val (.int x5), .val (.int i), .val (.int j), .val (.int la), .val (.int lb), .val (.int cc0), .val (.int cc1), .val (.int cc2), .val (.int dd0), .val (.int dd1), .val (.int dd2), .val (.int (1 : Int32)), .val (.ref s115), .val (.ref s140), .unset, .unset, .unset] [(.ref b4), (.ref b4)])) (fun _ k => XS.dup X4.here hx rfl (hb hby at_148) rfl rfl k) ?_
      refine Done.st (B := T4.setTop (mkF m 151 #[.val (.int x0), .val (.int x1), .val (.int x2), .val (.int x3), .val (.int x4), .val (.int x5), .val (.int i), .val (.int j), .val (.int la), .val (.int lb), .val (.int cc0), .val (.int cc1), .val (.int cc2), .val (.int dd0), .val (.int dd1), .val (.int dd2), .val (.int (1 : Int32)), .val (.ref s115), .val (.ref s140), .unset, .unset, .unset] [(.int i), (.ref b4), (.ref b4)])) (fun _ k => XS.iload X4.here hx rfl (hb hby at_149) rfl k) ?_
      have c6 := (Sta.ext E4 (own_sta_keep (own_sta_keep S_HEADER K1 all0) K3 all0))
      have c7 := (Sta.ext E4 (own_sta_keep (own_sta_keep S_IDENTIFIER K1 all0) K3 all0))
      have c8 := (Sta.ext E4 (own_sta_keep (own_sta_keep S_INTEGER K1 all0) K3 all0))
      have c9 := (Sta.ext E4 (own_sta_keep (own_sta_keep S_STRING K1 all0) K3 all0))
      have c10 := (Sta.ext E4 (own_sta_keep (own_sta_keep S_ALIAS K1 all0) K3 all0))
      have c11 := (Sta.ext E4 (own_sta_keep (own_sta_keep S_PUNCTUATION K1 all0) K3 all0))
      have c12 := (Sta.ext E4 (own_sta_keep (own_sta_keep S_BODY K1 all0) K3 all0))
      have c13 := (Sta.ext E4 (own_sta_keep (own_sta_keep S_END K1 all0) K3 all0))
      have c14 := (Sta.ext E4 (own_sta_keep (own_sta_keep S_ABORT K1 all0) K3 all0))
      have c15 := (Sta.ext E4 (own_sta_keep (own_sta_keep S_EOF K1 all0) K3 all0))
      obtain ⟨_, _, ⟨T16, L16, k16, n16⟩, -, X16, ⟨Lc16, hQ16, l16, y16, z16⟩, st16⟩ := Jvm.LawKit.callS X4 hx (y := (⟨"com/example/libbuchi/libbuchi/automaton/TokenIsPinLaw", "kindOf", "(I)Lcom/example/libbuchi/libbuchi/automaton/HoaTokenizer$Kind;"⟩ : MethodName)) hown (mvT hZ (hw _ (List.mem_of_getElem? (i := 41) rfl))) (mvT hZ (hw _ (List.mem_of_getElem? (i := 42) rfl))) (mvT hZ (hw _ (List.mem_of_getElem? (i := 3) rfl))) (mvT hZ (hw _ (List.mem_of_getElem? (i := 43) rfl))) (by decide) (backOf (W := 2) (rmK l Z a0 hw [] i w_HEADER w_IDENTIFIER w_INTEGER w_STRING w_ALIAS w_PUNCTUATION w_BODY w_END w_ABORT w_EOF h4 n0 Z4 c6 c7 c8 c9 c10 c11 c12 c13 c14 c15) hZ (hw _ (List.mem_of_getElem? (i := 43) rfl)) (hw _ (List.mem_of_getElem? (i := 3) rfl)) (by decide) (by decide)) (g := (mkF m 151 #[.val (.int x0), .val (.int x1), .val (.int x2), .val (.int x3), .val (.int x4), .val (.int x5), .val (.int i), .val (.int j), .val (.int la), .val (.int lb), .val (.int cc0), .val (.int cc1), .val (.int cc2), .val (.int dd0), .val (.int dd1), .val (.int dd2), .val (.int (1 : Int32)), .val (.ref s115), .val (.ref s140), .unset, .unset, .unset] [(.int i), (.ref b4), (.ref b4)])) rfl (by rw [hml]; rfl) (argsL := [(.int i)]) (rest := [(.ref b4), (.ref b4)]) (lenOf pd_4 rfl) rfl (by show 2 * 0 + _ ≤ _; exact Nat.le_of_eq rfl) (hb hby at_151) (fun _ _ => ⟨rfl, e4, (by decide : 9 + 0 ≤ _), (by decide : 23 + 0 ≤ _)⟩)
      dsimp only [Pt.U, Pt.locs, Pt.cells, Pt.slots] at X16 l16 y16 z16 st16 hQ16
      subst l16 y16 z16
      obtain ⟨rfl, N16q, e16⟩ := hQ16
      have N16 := Fr.app N3 N16q
      refine Done.st (B := T16.setTop (mkF m 154 #[.val (.int x0), .val (.int x1), .val (.int x2), .val (.int x3), .val (.int x4), .val (.int x5), .val (.int i), .val (.int j), .val (.int la), .val (.int lb), .val (.int cc0), .val (.int cc1), .val (.int cc2), .val (.int dd0), .val (.int dd1), .val (.int dd2), .val (.int (1 : Int32)), .val (.ref s115), .val (.ref s140), .unset, .unset, .unset] [(.ref (own_kd i w_HEADER w_IDENTIFIER w_INTEGER w_STRING w_ALIAS w_PUNCTUATION w_BODY w_END w_ABORT w_EOF)), (.ref b4), (.ref b4)])) (fun _ k => st16 _ k) ?_
      refine Done.st (B := T16.setTop (mkF m 156 #[.val (.int x0), .val (.int x1), .val (.int x2), .val (.int x3), .val (.int x4), .val (.int x5), .val (.int i), .val (.int j), .val (.int la), .val (.int lb), .val (.int cc0), .val (.int cc1), .val (.int cc2), .val (.int dd0), .val (.int dd1), .val (.int dd2), .val (.int (1 : Int32)), .val (.ref s115), .val (.ref s140), .unset, .unset, .unset] [(.ref s115), (.ref (own_kd i w_HEADER w_IDENTIFIER w_INTEGER w_STRING w_ALIAS w_PUNCTUATION w_BODY w_END w_ABORT w_EOF)), (.ref b4), (.ref b4)])) (fun _ k => XS.aload X16.here hx rfl (hb hby at_154) rfl rfl k) ?_
      refine Done.st (B := T16.setTop (mkF m 158 #[.val (.int x0), .val (.int x1), .val (.int x2), .val (.int x3), .val (.int x4), .val (.int x5), .val (.int i), .val (.int j), .val (.int la), .val (.int lb), .val (.int cc0), .val (.int cc1), .val (.int cc2), .val (.int dd0), .val (.int dd1), .val (.int dd2), .val (.int (1 : Int32)), .val (.ref s115), .val (.ref s140), .unset, .unset, .unset] [(.int x4), (.ref s115), (.ref (own_kd i w_HEADER w_IDENTIFIER w_INTEGER w_STRING w_ALIAS w_PUNCTUATION w_BODY w_END w_ABORT w_EOF)), (.ref b4), (.ref b4)])) (fun _ k => XS.iload X16.here hx rfl (hb hby at_156) rfl k) ?_
      obtain ⟨_, _, ⟨T17, L17, k17, n17⟩, -, X17, ⟨Lc17, hQ17, l17, y17, z17⟩, st17⟩ := X16.specialBack hx (y := (⟨"com/example/libbuchi/libbuchi/automaton/HoaTokenizer$Token", "<init>", "(Lcom/example/libbuchi/libbuchi/automaton/HoaTokenizer$Kind;Ljava/lang/String;I)V"⟩ : MethodName)) rfl hown (mvT hZ (hw _ (List.mem_of_getElem? (i := 47) rfl))) (mvT hZ (hw _ (List.mem_of_getElem? (i := 48) rfl))) (mvT hZ (hw _ (List.mem_of_getElem? (i := 49) rfl))) (by decide) (backOf (W := 1) (rmT l Z a0 hw [] b4 (own_kd i w_HEADER w_IDENTIFIER w_INTEGER w_STRING w_ALIAS w_PUNCTUATION w_BODY w_END w_ABORT w_EOF) s115 x4 h4 n0 Z4 F4_kind F4_text F4_line A4 ge_b4) hZ (hw _ (List.mem_of_getElem? (i := 49) rfl)) (hw _ (List.mem_of_getElem? (i := 40) rfl)) (by decide) (by decide)) (g := (mkF m 158 #[.val (.int x0), .val (.int x1), .val (.int x2), .val (.int x3), .val (.int x4), .val (.int x5), .val (.int i), .val (.int j), .val (.int la), .val (.int lb), .val (.int cc0), .val (.int cc1), .val (.int cc2), .val (.int dd0), .val (.int dd1), .val (.int dd2), .val (.int (1 : Int32)), .val (.ref s115), .val (.ref s140), .unset, .unset, .unset] [(.int x4), (.ref s115), (.ref (own_kd i w_HEADER w_IDENTIFIER w_INTEGER w_STRING w_ALIAS w_PUNCTUATION w_BODY w_END w_ABORT w_EOF)), (.ref b4), (.ref b4)])) rfl (by rw [hml]; rfl) (Steps.refl _) (a := b4) (argsL := [(.ref (own_kd i w_HEADER w_IDENTIFIER w_INTEGER w_STRING w_ALIAS w_PUNCTUATION w_BODY w_END w_ABORT w_EOF)), (.ref s115), (.int x4)]) (rest := [(.ref b4)]) (lenOf pd_5 rfl) rfl (by show 2 * 0 + _ ≤ _; exact Nat.le_of_eq rfl) (hb hby at_158) (fun _ _ => ⟨rfl, e16, (by decide : 9 + 0 ≤ _), (by decide : 23 + 0 ≤ _)⟩)
      dsimp only [Pt.U, Pt.locs, Pt.cells, Pt.slots] at X17 l17 y17 z17 st17 hQ17
      subst l17 y17 z17
      obtain ⟨rfl, N17q, K17, f17_0, f17_1, f17_2, f17_3⟩ := hQ17
      have N17 := Fr.app N16 N17q
      have na17_b4 := own_na_exa A4 (hw _ (List.mem_of_getElem? (i := 39) rfl))
      have C17 := CHv.keep K17 (sfS (Safe.exa (EL := own_EL) hZ.alike A4 (by decide) (by decide)) sf0) C4
      have R17 := R4.trans (CHr.keep K17 (sfS (Safe.exa (EL := own_EL) hZ.alike A4 (by decide) (by decide)) sf0) C4)
      have hk17 := Nat.le_trans hk4 K17.1
      have Z17 : n0 ≤ T17.heap.size := Nat.le_trans Z4 K17.1
      refine Done.st (B := T17.setTop (mkF m 161 #[.val (.int x0), .val (.int x1), .val (.int x2), .val (.int x3), .val (.int x4), .val (.int x5), .val (.int i), .val (.int j), .val (.int la), .val (.int lb), .val (.int cc0), .val (.int cc1), .val (.int cc2), .val (.int dd0), .val (.int dd1), .val (.int dd2), .val (.int (1 : Int32)), .val (.ref s115), .val (.ref s140), .unset, .unset, .unset] [(.ref b4)])) (fun _ k => st17.trans k) ?_
      refine Done.st (B := T17.setTop (mkF m 163 #[.val (.int x0), .val (.int x1), .val (.int x2), .val (.int x3), .val (.int x4), .val (.int x5), .val (.int i), .val (.int j), .val (.int la), .val (.int lb), .val (.int cc0), .val (.int cc1), .val (.int cc2), .val (.int dd0), .val (.int dd1), .val (.int dd2), .val (.int (1 : Int32)), .val (.ref s115), .val (.ref s140), .val (.ref b4), .unset, .unset] [])) (fun _ k => XS.astore X17.here hx rfl (hb hby at_161) rfl rfl (l' := #[.val (.int x0), .val (.int x1), .val (.int x2), .val (.int x3), .val (.int x4), .val (.int x5), .val (.int i), .val (.int j), .val (.int la), .val (.int lb), .val (.int cc0), .val (.int cc1), .val (.int cc2), .val (.int dd0), .val (.int dd1), .val (.int dd2), .val (.int (1 : Int32)), .val (.ref s115), .val (.ref s140), .val (.ref b4), .unset, .unset]) rfl k) ?_
      refine Done.st (B := T17.setTop (mkF m 165 #[.val (.int x0), .val (.int x1), .val (.int x2), .val (.int x3), .val (.int x4), .val (.int x5), .val (.int i), .val (.int j), .val (.int la), .val (.int lb), .val (.int cc0), .val (.int cc1), .val (.int cc2), .val (.int dd0), .val (.int dd1), .val (.int dd2), .val (.int (1 : Int32)), .val (.ref s115), .val (.ref s140), .val (.ref b4), .unset, .unset] [(.ref b4)])) (fun _ k => XS.aload X17.here hx rfl (hb hby at_163) rfl rfl k) ?_
      refine Done.st (B := T17.setTop (mkF m 167 #[.val (.int x0), .val (.int x1), .val (.int x2), .val (.int x3), .val (.int x4), .val (.int x5), .val (.int i), .val (.int j), .val (.int la), .val (.int lb), .val (.int cc0), .val (.int cc1), .val (.int cc2), .val (.int dd0), .val (.int dd1), .val (.int dd2), .val (.int (1 : Int32)), .val (.ref s115), .val (.ref s140), .val (.ref b4), .unset, .unset] [(.int j), (.ref b4)])) (fun _ k => XS.iload X17.here hx rfl (hb hby at_165) rfl k) ?_
      have c18 := (own_sta_keep c6 K17 (allS (own_ns_exa A4) all0))
      have c19 := (own_sta_keep c7 K17 (allS (own_ns_exa A4) all0))
      have c20 := (own_sta_keep c8 K17 (allS (own_ns_exa A4) all0))
      have c21 := (own_sta_keep c9 K17 (allS (own_ns_exa A4) all0))
      have c22 := (own_sta_keep c10 K17 (allS (own_ns_exa A4) all0))
      have c23 := (own_sta_keep c11 K17 (allS (own_ns_exa A4) all0))
      have c24 := (own_sta_keep c12 K17 (allS (own_ns_exa A4) all0))
      have c25 := (own_sta_keep c13 K17 (allS (own_ns_exa A4) all0))
      have c26 := (own_sta_keep c14 K17 (allS (own_ns_exa A4) all0))
      have c27 := (own_sta_keep c15 K17 (allS (own_ns_exa A4) all0))
      obtain ⟨_, _, ⟨T28, L28, k28, n28⟩, -, X28, ⟨Lc28, hQ28, l28, y28, z28⟩, st28⟩ := Jvm.LawKit.callS X17 hx (y := (⟨"com/example/libbuchi/libbuchi/automaton/TokenIsPinLaw", "kindOf", "(I)Lcom/example/libbuchi/libbuchi/automaton/HoaTokenizer$Kind;"⟩ : MethodName)) hown (mvT hZ (hw _ (List.mem_of_getElem? (i := 41) rfl))) (mvT hZ (hw _ (List.mem_of_getElem? (i := 42) rfl))) (mvT hZ (hw _ (List.mem_of_getElem? (i := 3) rfl))) (mvT hZ (hw _ (List.mem_of_getElem? (i := 43) rfl))) (by decide) (backOf (W := 1) (rmK l Z a0 hw [] j w_HEADER w_IDENTIFIER w_INTEGER w_STRING w_ALIAS w_PUNCTUATION w_BODY w_END w_ABORT w_EOF T17.heap n0 Z17 c18 c19 c20 c21 c22 c23 c24 c25 c26 c27) hZ (hw _ (List.mem_of_getElem? (i := 43) rfl)) (hw _ (List.mem_of_getElem? (i := 3) rfl)) (by decide) (by decide)) (g := (mkF m 167 #[.val (.int x0), .val (.int x1), .val (.int x2), .val (.int x3), .val (.int x4), .val (.int x5), .val (.int i), .val (.int j), .val (.int la), .val (.int lb), .val (.int cc0), .val (.int cc1), .val (.int cc2), .val (.int dd0), .val (.int dd1), .val (.int dd2), .val (.int (1 : Int32)), .val (.ref s115), .val (.ref s140), .val (.ref b4), .unset, .unset] [(.int j), (.ref b4)])) rfl (by rw [hml]; rfl) (argsL := [(.int j)]) (rest := [(.ref b4)]) (lenOf pd_4 rfl) rfl (by show 2 * 0 + _ ≤ _; exact Nat.le_of_eq rfl) (hb hby at_167) (fun _ _ => ⟨rfl, rfl, (by decide : 9 + 0 ≤ _), (by decide : 23 + 0 ≤ _)⟩)
      dsimp only [Pt.U, Pt.locs, Pt.cells, Pt.slots] at X28 l28 y28 z28 st28 hQ28
      subst l28 y28 z28
      obtain ⟨rfl, N28q, e28⟩ := hQ28
      have N28 := Fr.app N17 N28q
      refine Done.st (B := T28.setTop (mkF m 170 #[.val (.int x0), .val (.int x1), .val (.int x2), .val (.int x3), .val (.int x4), .val (.int x5), .val (.int i), .val (.int j), .val (.int la), .val (.int lb), .val (.int cc0), .val (.int cc1), .val (.int cc2), .val (.int dd0), .val (.int dd1), .val (.int dd2), .val (.int (1 : Int32)), .val (.ref s115), .val (.ref s140), .val (.ref b4), .unset, .unset] [(.ref (own_kd j w_HEADER w_IDENTIFIER w_INTEGER w_STRING w_ALIAS w_PUNCTUATION w_BODY w_END w_ABORT w_EOF)), (.ref b4)])) (fun _ k => st28 _ k) ?_
      refine Done.st (B := T28.setTop (mkF m 172 #[.val (.int x0), .val (.int x1), .val (.int x2), .val (.int x3), .val (.int x4), .val (.int x5), .val (.int i), .val (.int j), .val (.int la), .val (.int lb), .val (.int cc0), .val (.int cc1), .val (.int cc2), .val (.int dd0), .val (.int dd1), .val (.int dd2), .val (.int (1 : Int32)), .val (.ref s115), .val (.ref s140), .val (.ref b4), .unset, .unset] [(.int (1 : Int32)), (.ref (own_kd j w_HEADER w_IDENTIFIER w_INTEGER w_STRING w_ALIAS w_PUNCTUATION w_BODY w_END w_ABORT w_EOF)), (.ref b4)])) (fun _ k => XS.iload X28.here hx rfl (hb hby at_170) rfl k) ?_
      refine Done.st (B := T28.setTop (mkF m 175 #[.val (.int x0), .val (.int x1), .val (.int x2), .val (.int x3), .val (.int x4), .val (.int x5), .val (.int i), .val (.int j), .val (.int la), .val (.int lb), .val (.int cc0), .val (.int cc1), .val (.int cc2), .val (.int dd0), .val (.int dd1), .val (.int dd2), .val (.int (1 : Int32)), .val (.ref s115), .val (.ref s140), .val (.ref b4), .unset, .unset] [(.ref (own_kd j w_HEADER w_IDENTIFIER w_INTEGER w_STRING w_ALIAS w_PUNCTUATION w_BODY w_END w_ABORT w_EOF)), (.ref b4)])) (fun _ k => XS.ifNo X28.here hx rfl (hb hby at_172) rfl ((if0 _ _).trans (feq (by decide : ¬ ((1 : Int32) = (0 : Int32)))).1) k) ?_
      refine Done.st (B := T28.setTop (mkF m 176 #[.val (.int x0), .val (.int x1), .val (.int x2), .val (.int x3), .val (.int x4), .val (.int x5), .val (.int i), .val (.int j), .val (.int la), .val (.int lb), .val (.int cc0), .val (.int cc1), .val (.int cc2), .val (.int dd0), .val (.int dd1), .val (.int dd2), .val (.int (1 : Int32)), .val (.ref s115), .val (.ref s140), .val (.ref b4), .unset, .unset] [.null, (.ref (own_kd j w_HEADER w_IDENTIFIER w_INTEGER w_STRING w_ALIAS w_PUNCTUATION w_BODY w_END w_ABORT w_EOF)), (.ref b4)])) (fun _ k => XS.aconstNull X28.here hx rfl (hb hby at_175) k) ?_
      refine Done.st (B := T28.setTop (mkF m 181 #[.val (.int x0), .val (.int x1), .val (.int x2), .val (.int x3), .val (.int x4), .val (.int x5), .val (.int i), .val (.int j), .val (.int la), .val (.int lb), .val (.int cc0), .val (.int cc1), .val (.int cc2), .val (.int dd0), .val (.int dd1), .val (.int dd2), .val (.int (1 : Int32)), .val (.ref s115), .val (.ref s140), .val (.ref b4), .unset, .unset] [.null, (.ref (own_kd j w_HEADER w_IDENTIFIER w_INTEGER w_STRING w_ALIAS w_PUNCTUATION w_BODY w_END w_ABORT w_EOF)), (.ref b4)])) (fun _ k => XS.goto X28.here hx rfl (pc0 := 176) (pc' := 181) rfl (hb hby at_176) (by decide) (by decide) k) ?_
      have c29 := ((c5.ext E4).keep K17 (ninS ne_s115_b4 nin0) (allS na17_b4 all0))
      obtain ⟨cq30, kq30, q30a, q30b, q30c⟩ := isOf hZ e28 f17_0
      obtain ⟨_, _, ⟨T30, L30, k30, n30⟩, -, X30, ⟨Lc30, hQ30, l30, y30, z30⟩, st30⟩ := X28.virtualBack hx (y := (⟨"com/example/libbuchi/libbuchi/automaton/HoaTokenizer$Token", "is", "(Lcom/example/libbuchi/libbuchi/automaton/HoaTokenizer$Kind;Ljava/lang/String;)Z"⟩ : MethodName)) (z := (⟨"com/example/libbuchi/libbuchi/automaton/HoaTokenizer$Token", "is", "(Lcom/example/libbuchi/libbuchi/automaton/HoaTokenizer$Kind;Ljava/lang/String;)Z"⟩ : MethodName)) hown (mvT hZ (hw _ (List.mem_of_getElem? (i := 59) rfl))) (mvT hZ (hw _ (List.mem_of_getElem? (i := 60) rfl))) (notFace_of_selects (args := #[]) (mvT hZ (hw _ (List.mem_of_getElem? (i := 62) rfl)))) (mvT hZ (hw _ (List.mem_of_getElem? (i := 62) rfl))) (mvT hZ (hw _ (List.mem_of_getElem? (i := 61) rfl))) (by decide) (backOf (W := 0) (rmIN l Z a0 hw [] b4 (own_kd j w_HEADER w_IDENTIFIER w_INTEGER w_STRING w_ALIAS w_PUNCTUATION w_BODY w_END w_ABORT w_EOF) (own_kd i w_HEADER w_IDENTIFIER w_INTEGER w_STRING w_ALIAS w_PUNCTUATION w_BODY w_END w_ABORT w_EOF) s115 (own_cs la (cc0.toUInt32.toUInt16.toUInt32.toInt32) (cc1.toUInt32.toUInt16.toUInt32.toInt32) (cc2.toUInt32.toUInt16.toUInt32.toInt32)) T17.heap n0 Z17 f17_1 f17_2 c29) hZ (hw _ (List.mem_of_getElem? (i := 63) rfl)) (hw _ (List.mem_of_getElem? (i := 40) rfl)) (by decide) (by decide)) q30a q30c (g := (mkF m 181 #[.val (.int x0), .val (.int x1), .val (.int x2), .val (.int x3), .val (.int x4), .val (.int x5), .val (.int i), .val (.int j), .val (.int la), .val (.int lb), .val (.int cc0), .val (.int cc1), .val (.int cc2), .val (.int dd0), .val (.int dd1), .val (.int dd2), .val (.int (1 : Int32)), .val (.ref s115), .val (.ref s140), .val (.ref b4), .unset, .unset] [.null, (.ref (own_kd j w_HEADER w_IDENTIFIER w_INTEGER w_STRING w_ALIAS w_PUNCTUATION w_BODY w_END w_ABORT w_EOF)), (.ref b4)])) rfl (by rw [hml]; rfl) (Steps.refl _) (argsL := [(.ref (own_kd j w_HEADER w_IDENTIFIER w_INTEGER w_STRING w_ALIAS w_PUNCTUATION w_BODY w_END w_ABORT w_EOF)), .null]) (rest := []) (lenOf pd_6 rfl) rfl (by show 2 * 0 + _ ≤ _; exact Nat.le_of_eq rfl) (hb hby at_181) (fun _ _ => ⟨rfl, e28, (by decide : 9 + 0 ≤ _), (by decide : 23 + 0 ≤ _)⟩)
      dsimp only [Pt.U, Pt.locs, Pt.cells, Pt.slots] at X30 l30 y30 z30 st30 hQ30
      subst l30 y30 z30
      obtain ⟨rfl, N30q, e30⟩ := hQ30
      have N30 := Fr.app N28 N30q
      refine Done.st (B := T30.setTop (mkF m 184 #[.val (.int x0), .val (.int x1), .val (.int x2), .val (.int x3), .val (.int x4), .val (.int x5), .val (.int i), .val (.int j), .val (.int la), .val (.int lb), .val (.int cc0), .val (.int cc1), .val (.int cc2), .val (.int dd0), .val (.int dd1), .val (.int dd2), .val (.int (1 : Int32)), .val (.ref s115), .val (.ref s140), .val (.ref b4), .unset, .unset] [(.int (0 : Int32))])) (fun _ k => st30.trans k) ?_
      refine Done.st (B := T30.setTop (mkF m 186 #[.val (.int x0), .val (.int x1), .val (.int x2), .val (.int x3), .val (.int x4), .val (.int x5), .val (.int i), .val (.int j), .val (.int la), .val (.int lb), .val (.int cc0), .val (.int cc1), .val (.int cc2), .val (.int dd0), .val (.int dd1), .val (.int dd2), .val (.int (1 : Int32)), .val (.ref s115), .val (.ref s140), .val (.ref b4), .val (.int (0 : Int32)), .unset] [])) (fun _ k => XS.istore X30.here hx rfl (hb hby at_184) rfl (l' := #[.val (.int x0), .val (.int x1), .val (.int x2), .val (.int x3), .val (.int x4), .val (.int x5), .val (.int i), .val (.int j), .val (.int la), .val (.int lb), .val (.int cc0), .val (.int cc1), .val (.int cc2), .val (.int dd0), .val (.int dd1), .val (.int dd2), .val (.int (1 : Int32)), .val (.ref s115), .val (.ref s140), .val (.ref b4), .val (.int (0 : Int32)), .unset]) rfl k) ?_
      have j245 : ∀ (want : Int32) (hwant : want = own_want i j (1 : Int32) la lb dd0 dd1 dd2), Done p e below (Prm0 s Z x0 x1 x2 x3 x4 x5 w_INTEGER w_IDENTIFIER w_PUNCTUATION w_END w_ALIAS w_BODY w_ABORT w_HEADER w_STRING w_EOF z h0 n0) (T30.setTop (mkF m 245 #[.val (.int x0), .val (.int x1), .val (.int x2), .val (.int x3), .val (.int x4), .val (.int x5), .val (.int i), .val (.int j), .val (.int la), .val (.int lb), .val (.int cc0), .val (.int cc1), .val (.int cc2), .val (.int dd0), .val (.int dd1), .val (.int dd2), .val (.int (1 : Int32)), .val (.ref s115), .val (.ref s140), .val (.ref b4), .val (.int (0 : Int32)), .val (.int want)] [])) := by
        intro want hwant
        refine Done.st (B := T30.setTop (mkF m 247 #[.val (.int x0), .val (.int x1), .val (.int x2), .val (.int x3), .val (.int x4), .val (.int x5), .val (.int i), .val (.int j), .val (.int la), .val (.int lb), .val (.int cc0), .val (.int cc1), .val (.int cc2), .val (.int dd0), .val (.int dd1), .val (.int dd2), .val (.int (1 : Int32)), .val (.ref s115), .val (.ref s140), .val (.ref b4), .val (.int (0 : Int32)), .val (.int want)] [(.int (0 : Int32))])) (fun _ k => XS.iload X30.here hx rfl (hb hby at_245) rfl k) ?_
        refine Done.st (B := T30.setTop (mkF m 249 #[.val (.int x0), .val (.int x1), .val (.int x2), .val (.int x3), .val (.int x4), .val (.int x5), .val (.int i), .val (.int j), .val (.int la), .val (.int lb), .val (.int cc0), .val (.int cc1), .val (.int cc2), .val (.int dd0), .val (.int dd1), .val (.int dd2), .val (.int (1 : Int32)), .val (.ref s115), .val (.ref s140), .val (.ref b4), .val (.int (0 : Int32)), .val (.int want)] [(.int want), (.int (0 : Int32))])) (fun _ k => XS.iload X30.here hx rfl (hb hby at_247) rfl k) ?_
        refine Done.st (B := T30.setTop (mkF m 252 #[.val (.int x0), .val (.int x1), .val (.int x2), .val (.int x3), .val (.int x4), .val (.int x5), .val (.int i), .val (.int j), .val (.int la), .val (.int lb), .val (.int cc0), .val (.int cc1), .val (.int cc2), .val (.int dd0), .val (.int dd1), .val (.int dd2), .val (.int (1 : Int32)), .val (.ref s115), .val (.ref s140), .val (.ref b4), .val (.int (0 : Int32)), .val (.int want)] [])) (fun _ k => XS.icmpNo X30.here hx rfl (hb hby at_249) rfl (teq (by rw [hwant]; exact own_wnull (by decide))).2 k) ?_
        refine Done.st (B := T30.setTop (mkF m 253 #[.val (.int x0), .val (.int x1), .val (.int x2), .val (.int x3), .val (.int x4), .val (.int x5), .val (.int i), .val (.int j), .val (.int la), .val (.int lb), .val (.int cc0), .val (.int cc1), .val (.int cc2), .val (.int dd0), .val (.int dd1), .val (.int dd2), .val (.int (1 : Int32)), .val (.ref s115), .val (.ref s140), .val (.ref b4), .val (.int (0 : Int32)), .val (.int want)] [(.int (1 : Int32))])) (fun _ k => XS.iconst X30.here hx rfl (hb hby at_252) k) ?_
        refine Done.st (B := T30.setTop (mkF m 257 #[.val (.int x0), .val (.int x1), .val (.int x2), .val (.int x3), .val (.int x4), .val (.int x5), .val (.int i), .val (.int j), .val (.int la), .val (.int lb), .val (.int cc0), .val (.int cc1), .val (.int cc2), .val (.int dd0), .val (.int dd1), .val (.int dd2), .val (.int (1 : Int32)), .val (.ref s115), .val (.ref s140), .val (.ref b4), .val (.int (0 : Int32)), .val (.int want)] [(.int (1 : Int32))])) (fun _ k => XS.goto X30.here hx rfl (pc0 := 253) (pc' := 257) rfl (hb hby at_253) (by decide) (by decide) k) ?_
        obtain ⟨fs, hr, hrun, hended, hWW⟩ := X30.leaveW hS3 (by rw [e30]; exact hk17) (v := some (.int (1 : Int32))) (hlocks := hlk) (fun h => by rw [Bd.returns] at h; cases h)
        refine Done.fin (retN X30 hx (t := .boolean) Bd.returns (by simp) (hb hby at_257) hr) hrun hended ⟨_, _, rfl, ?_, ?_, hWW.1, hWW.2.1, hWW.2.2.1, hWW.2.2.2.mono (by decide) (by decide)⟩
        rotate_left
        · show CHr Z own_EL s.vm s.heap T30.vm T30.heap
          rw [hh, e30]
          exact R17.trans (CHv.at X30 hZ hEL C17)
        show Qrm0 Z x0 x1 x2 x3 x4 x5 w_INTEGER w_IDENTIFIER w_PUNCTUATION w_END w_ALIAS w_BODY w_ABORT w_HEADER w_STRING w_EOF z h0 n0 _ T30.heap _
        rw [e30]
        exact ⟨rfl, N30⟩
      refine Done.st (B := T30.setTop (mkF m 188 #[.val (.int x0), .val (.int x1), .val (.int x2), .val (.int x3), .val (.int x4), .val (.int x5), .val (.int i), .val (.int j), .val (.int la), .val (.int lb), .val (.int cc0), .val (.int cc1), .val (.int cc2), .val (.int dd0), .val (.int dd1), .val (.int dd2), .val (.int (1 : Int32)), .val (.ref s115), .val (.ref s140), .val (.ref b4), .val (.int (0 : Int32)), .unset] [(.int i)])) (fun _ k => XS.iload X30.here hx rfl (hb hby at_186) rfl k) ?_
      refine Done.st (B := T30.setTop (mkF m 190 #[.val (.int x0), .val (.int x1), .val (.int x2), .val (.int x3), .val (.int x4), .val (.int x5), .val (.int i), .val (.int j), .val (.int la), .val (.int lb), .val (.int cc0), .val (.int cc1), .val (.int cc2), .val (.int dd0), .val (.int dd1), .val (.int dd2), .val (.int (1 : Int32)), .val (.ref s115), .val (.ref s140), .val (.ref b4), .val (.int (0 : Int32)), .unset] [(.int j), (.int i)])) (fun _ k => XS.iload X30.here hx rfl (hb hby at_188) rfl k) ?_
      by_cases hc190 : i = j
      · refine Done.st (B := T30.setTop (mkF m 193 #[.val (.int x0), .val (.int x1), .val (.int x2), .val (.int x3), .val (.int x4), .val (.int x5), .val (.int i), .val (.int j), .val (.int la), .val (.int lb), .val (.int cc0), .val (.int cc1), .val (.int cc2), .val (.int dd0), .val (.int dd1), .val (.int dd2), .val (.int (1 : Int32)), .val (.ref s115), .val (.ref s140), .val (.ref b4), .val (.int (0 : Int32)), .unset] [])) (fun _ k => XS.icmpNo X30.here hx rfl (hb hby at_190) rfl (teq hc190).2 k) ?_
        refine Done.st (B := T30.setTop (mkF m 195 #[.val (.int x0), .val (.int x1), .val (.int x2), .val (.int x3), .val (.int x4), .val (.int x5), .val (.int i), .val (.int j), .val (.int la), .val (.int lb), .val (.int cc0), .val (.int cc1), .val (.int cc2), .val (.int dd0), .val (.int dd1), .val (.int dd2), .val (.int (1 : Int32)), .val (.ref s115), .val (.ref s140), .val (.ref b4), .val (.int (0 : Int32)), .unset] [(.int (1 : Int32))])) (fun _ k => XS.iload X30.here hx rfl (hb hby at_193) rfl k) ?_
        refine Done.st (B := T30.setTop (mkF m 242 #[.val (.int x0), .val (.int x1), .val (.int x2), .val (.int x3), .val (.int x4), .val (.int x5), .val (.int i), .val (.int j), .val (.int la), .val (.int lb), .val (.int cc0), .val (.int cc1), .val (.int cc2), .val (.int dd0), .val (.int dd1), .val (.int dd2), .val (.int (1 : Int32)), .val (.ref s115), .val (.ref s140), .val (.ref b4), .val (.int (0 : Int32)), .unset] [])) (fun _ k => XS.ifYes X30.here hx rfl (pc0 := 195) (pc' := 242) rfl (hb hby at_195) rfl ((if0 _ _).trans (feq (by decide : ¬ ((1 : Int32) = (0 : Int32)))).2) (by decide) (by decide) k) ?_
        refine Done.st (B := T30.setTop (mkF m 243 #[.val (.int x0), .val (.int x1), .val (.int x2), .val (.int x3), .val (.int x4), .val (.int x5), .val (.int i), .val (.int j), .val (.int la), .val (.int lb), .val (.int cc0), .val (.int cc1), .val (.int cc2), .val (.int dd0), .val (.int dd1), .val (.int dd2), .val (.int (1 : Int32)), .val (.ref s115), .val (.ref s140), .val (.ref b4), .val (.int (0 : Int32)), .unset] [(.int (0 : Int32))])) (fun _ k => XS.iconst X30.here hx rfl (hb hby at_242) k) ?_
        refine Done.st (B := T30.setTop (mkF m 245 #[.val (.int x0), .val (.int x1), .val (.int x2), .val (.int x3), .val (.int x4), .val (.int x5), .val (.int i), .val (.int j), .val (.int la), .val (.int lb), .val (.int cc0), .val (.int cc1), .val (.int cc2), .val (.int dd0), .val (.int dd1), .val (.int dd2), .val (.int (1 : Int32)), .val (.ref s115), .val (.ref s140), .val (.ref b4), .val (.int (0 : Int32)), .val (.int (0 : Int32))] [])) (fun _ k => XS.istore X30.here hx rfl (hb hby at_243) rfl (l' := #[.val (.int x0), .val (.int x1), .val (.int x2), .val (.int x3), .val (.int x4), .val (.int x5), .val (.int i), .val (.int j), .val (.int la), .val (.int lb), .val (.int cc0), .val (.int cc1), .val (.int cc2), .val (.int dd0), .val (.int dd1), .val (.int dd2), .val (.int (1 : Int32)), .val (.ref s115), .val (.ref s140), .val (.ref b4), .val (.int (0 : Int32)), .val (.int (0 : Int32))]) rfl k) ?_
        exact j245 (0 : Int32) (own_wnull (by decide))
      · refine Done.st (B := T30.setTop (mkF m 242 #[.val (.int x0), .val (.int x1), .val (.int x2), .val (.int x3), .val (.int x4), .val (.int x5), .val (.int i), .val (.int j), .val (.int la), .val (.int lb), .val (.int cc0), .val (.int cc1), .val (.int cc2), .val (.int dd0), .val (.int dd1), .val (.int dd2), .val (.int (1 : Int32)), .val (.ref s115), .val (.ref s140), .val (.ref b4), .val (.int (0 : Int32)), .unset] [])) (fun _ k => XS.icmpYes X30.here hx rfl (pc0 := 190) (pc' := 242) rfl (hb hby at_190) rfl (feq hc190).2 (by decide) (by decide) k) ?_
        refine Done.st (B := T30.setTop (mkF m 243 #[.val (.int x0), .val (.int x1), .val (.int x2), .val (.int x3), .val (.int x4), .val (.int x5), .val (.int i), .val (.int j), .val (.int la), .val (.int lb), .val (.int cc0), .val (.int cc1), .val (.int cc2), .val (.int dd0), .val (.int dd1), .val (.int dd2), .val (.int (1 : Int32)), .val (.ref s115), .val (.ref s140), .val (.ref b4), .val (.int (0 : Int32)), .unset] [(.int (0 : Int32))])) (fun _ k => XS.iconst X30.here hx rfl (hb hby at_242) k) ?_
        refine Done.st (B := T30.setTop (mkF m 245 #[.val (.int x0), .val (.int x1), .val (.int x2), .val (.int x3), .val (.int x4), .val (.int x5), .val (.int i), .val (.int j), .val (.int la), .val (.int lb), .val (.int cc0), .val (.int cc1), .val (.int cc2), .val (.int dd0), .val (.int dd1), .val (.int dd2), .val (.int (1 : Int32)), .val (.ref s115), .val (.ref s140), .val (.ref b4), .val (.int (0 : Int32)), .val (.int (0 : Int32))] [])) (fun _ k => XS.istore X30.here hx rfl (hb hby at_243) rfl (l' := #[.val (.int x0), .val (.int x1), .val (.int x2), .val (.int x3), .val (.int x4), .val (.int x5), .val (.int i), .val (.int j), .val (.int la), .val (.int lb), .val (.int cc0), .val (.int cc1), .val (.int cc2), .val (.int dd0), .val (.int dd1), .val (.int dd2), .val (.int (1 : Int32)), .val (.ref s115), .val (.ref s140), .val (.ref b4), .val (.int (0 : Int32)), .val (.int (0 : Int32))]) rfl k) ?_
        exact j245 (0 : Int32) (own_wnull (by decide))
    · refine Done.st (B := s₁.setTop (mkF m 101 #[.val (.int x0), .val (.int x1), .val (.int x2), .val (.int x3), .val (.int x4), .val (.int x5), .val (.int i), .val (.int j), .val (.int la), .val (.int lb), .val (.int cc0), .val (.int cc1), .val (.int cc2), .val (.int dd0), .val (.int dd1), .val (.int dd2), .unset, .unset, .unset, .unset, .unset, .unset] [])) (fun _ k => XS.icmpYes X0.here hx rfl (pc0 := 94) (pc' := 101) rfl (hb hby at_94) rfl (feq hc94).2 (by decide) (by decide) k) ?_
      refine Done.st (B := s₁.setTop (mkF m 102 #[.val (.int x0), .val (.int x1), .val (.int x2), .val (.int x3), .val (.int x4), .val (.int x5), .val (.int i), .val (.int j), .val (.int la), .val (.int lb), .val (.int cc0), .val (.int cc1), .val (.int cc2), .val (.int dd0), .val (.int dd1), .val (.int dd2), .unset, .unset, .unset, .unset, .unset, .unset] [(.int (0 : Int32))])) (fun _ k => XS.iconst X0.here hx rfl (hb hby at_101) k) ?_
      refine Done.st (B := s₁.setTop (mkF m 104 #[.val (.int x0), .val (.int x1), .val (.int x2), .val (.int x3), .val (.int x4), .val (.int x5), .val (.int i), .val (.int j), .val (.int la), .val (.int lb), .val (.int cc0), .val (.int cc1), .val (.int cc2), .val (.int dd0), .val (.int dd1), .val (.int dd2), .val (.int (0 : Int32)), .unset, .unset, .unset, .unset, .unset] [])) (fun _ k => XS.istore X0.here hx rfl (hb hby at_102) rfl (l' := #[.val (.int x0), .val (.int x1), .val (.int x2), .val (.int x3), .val (.int x4), .val (.int x5), .val (.int i), .val (.int j), .val (.int la), .val (.int lb), .val (.int cc0), .val (.int cc1), .val (.int cc2), .val (.int dd0), .val (.int dd1), .val (.int dd2), .val (.int (0 : Int32)), .unset, .unset, .unset, .unset, .unset]) rfl k) ?_
      refine Done.st (B := s₁.setTop (mkF m 106 #[.val (.int x0), .val (.int x1), .val (.int x2), .val (.int x3), .val (.int x4), .val (.int x5), .val (.int i), .val (.int j), .val (.int la), .val (.int lb), .val (.int cc0), .val (.int cc1), .val (.int cc2), .val (.int dd0), .val (.int dd1), .val (.int dd2), .val (.int (0 : Int32)), .unset, .unset, .unset, .unset, .unset] [(.int la)])) (fun _ k => XS.iload X0.here hx rfl (hb hby at_104) rfl k) ?_
      refine Done.st (B := s₁.setTop (mkF m 108 #[.val (.int x0), .val (.int x1), .val (.int x2), .val (.int x3), .val (.int x4), .val (.int x5), .val (.int i), .val (.int j), .val (.int la), .val (.int lb), .val (.int cc0), .val (.int cc1), .val (.int cc2), .val (.int dd0), .val (.int dd1), .val (.int dd2), .val (.int (0 : Int32)), .unset, .unset, .unset, .unset, .unset] [(.int cc0), (.int la)])) (fun _ k => XS.iload X0.here hx rfl (hb hby at_106) rfl k) ?_
      refine Done.st (B := s₁.setTop (mkF m 109 #[.val (.int x0), .val (.int x1), .val (.int x2), .val (.int x3), .val (.int x4), .val (.int x5), .val (.int i), .val (.int j), .val (.int la), .val (.int lb), .val (.int cc0), .val (.int cc1), .val (.int cc2), .val (.int dd0), .val (.int dd1), .val (.int dd2), .val (.int (0 : Int32)), .unset, .unset, .unset, .unset, .unset] [(.int (cc0.toUInt32.toUInt16.toUInt32.toInt32)), (.int la)])) (fun _ k => XS.i2c X0.here hx rfl (hb hby at_108) rfl k) ?_
      refine Done.st (B := s₁.setTop (mkF m 111 #[.val (.int x0), .val (.int x1), .val (.int x2), .val (.int x3), .val (.int x4), .val (.int x5), .val (.int i), .val (.int j), .val (.int la), .val (.int lb), .val (.int cc0), .val (.int cc1), .val (.int cc2), .val (.int dd0), .val (.int dd1), .val (.int dd2), .val (.int (0 : Int32)), .unset, .unset, .unset, .unset, .unset] [(.int cc1), (.int (cc0.toUInt32.toUInt16.toUInt32.toInt32)), (.int la)])) (fun _ k => XS.iload X0.here hx rfl (hb hby at_109) rfl k) ?_
      refine Done.st (B := s₁.setTop (mkF m 112 #[.val (.int x0), .val (.int x1), .val (.int x2), .val (.int x3), .val (.int x4), .val (.int x5), .val (.int i), .val (.int j), .val (.int la), .val (.int lb), .val (.int cc0), .val (.int cc1), .val (.int cc2), .val (.int dd0), .val (.int dd1), .val (.int dd2), .val (.int (0 : Int32)), .unset, .unset, .unset, .unset, .unset] [(.int (cc1.toUInt32.toUInt16.toUInt32.toInt32)), (.int (cc0.toUInt32.toUInt16.toUInt32.toInt32)), (.int la)])) (fun _ k => XS.i2c X0.here hx rfl (hb hby at_111) rfl k) ?_
      refine Done.st (B := s₁.setTop (mkF m 114 #[.val (.int x0), .val (.int x1), .val (.int x2), .val (.int x3), .val (.int x4), .val (.int x5), .val (.int i), .val (.int j), .val (.int la), .val (.int lb), .val (.int cc0), .val (.int cc1), .val (.int cc2), .val (.int dd0), .val (.int dd1), .val (.int dd2), .val (.int (0 : Int32)), .unset, .unset, .unset, .unset, .unset] [(.int cc2), (.int (cc1.toUInt32.toUInt16.toUInt32.toInt32)), (.int (cc0.toUInt32.toUInt16.toUInt32.toInt32)), (.int la)])) (fun _ k => XS.iload X0.here hx rfl (hb hby at_112) rfl k) ?_
      refine Done.st (B := s₁.setTop (mkF m 115 #[.val (.int x0), .val (.int x1), .val (.int x2), .val (.int x3), .val (.int x4), .val (.int x5), .val (.int i), .val (.int j), .val (.int la), .val (.int lb), .val (.int cc0), .val (.int cc1), .val (.int cc2), .val (.int dd0), .val (.int dd1), .val (.int dd2), .val (.int (0 : Int32)), .unset, .unset, .unset, .unset, .unset] [(.int (cc2.toUInt32.toUInt16.toUInt32.toInt32)), (.int (cc1.toUInt32.toUInt16.toUInt32.toInt32)), (.int (cc0.toUInt32.toUInt16.toUInt32.toInt32)), (.int la)])) (fun _ k => XS.i2c X0.here hx rfl (hb hby at_114) rfl k) ?_
      obtain ⟨_, _, ⟨T32, L32, k32, n32⟩, -, X32, hs32, hg32, ⟨Lc32, hQ32, l32, y32, z32, cr32⟩, st32⟩ := callSS X0 hx (y := (⟨"com/example/libbuchi/libbuchi/automaton/TokenIsPinLaw", "build", "(ICCC)Ljava/lang/String;"⟩ : MethodName)) hown (mvT hZ (hw _ (List.mem_of_getElem? (i := 1) rfl))) (mvT hZ (hw _ (List.mem_of_getElem? (i := 2) rfl))) (mvT hZ (hw _ (List.mem_of_getElem? (i := 3) rfl))) (mvT hZ (hw _ (List.mem_of_getElem? (i := 4) rfl))) (by decide) (backOfSH (W := 0) (rmB l Z a0 hw [] la (cc0.toUInt32.toUInt16.toUInt32.toInt32) (cc1.toUInt32.toUInt16.toUInt32.toInt32) (cc2.toUInt32.toUInt16.toUInt32.toInt32) z h0 n0 Z0 S_z hz (own_icok h_c0) (own_icok h_c1) (own_icok h_c2)) hZ (hw _ (List.mem_of_getElem? (i := 4) rfl)) (hw _ (List.mem_of_getElem? (i := 3) rfl)) (by decide) (by decide) hEL hC0) (g := (mkF m 115 #[.val (.int x0), .val (.int x1), .val (.int x2), .val (.int x3), .val (.int x4), .val (.int x5), .val (.int i), .val (.int j), .val (.int la), .val (.int lb), .val (.int cc0), .val (.int cc1), .val (.int cc2), .val (.int dd0), .val (.int dd1), .val (.int dd2), .val (.int (0 : Int32)), .unset, .unset, .unset, .unset, .unset] [(.int (cc2.toUInt32.toUInt16.toUInt32.toInt32)), (.int (cc1.toUInt32.toUInt16.toUInt32.toInt32)), (.int (cc0.toUInt32.toUInt16.toUInt32.toInt32)), (.int la)])) rfl (by rw [hml]; rfl) (argsL := [(.int la), (.int (cc0.toUInt32.toUInt16.toUInt32.toInt32)), (.int (cc1.toUInt32.toUInt16.toUInt32.toInt32)), (.int (cc2.toUInt32.toUInt16.toUInt32.toInt32))]) (rest := []) (lenOf pd_3 rfl) rfl (by show 2 * 0 + _ ≤ _; exact Nat.le_of_eq rfl) (hb hby at_115) (fun _ _ => ⟨rfl, e0, (by decide : 0 + 4 ≤ _), (by decide : 0 + 10 ≤ _)⟩)
      dsimp only [Pt.U, Pt.locs, Pt.cells, Pt.slots] at X32 l32 y32 z32 st32 hQ32 hs32 hg32 cr32
      subst l32 y32 z32
      obtain ⟨X32, hS32, hZ, hown⟩ := rebS hS0 (by rw [e0]; exact hk0) X32 hs32 hg32 hZ hown
      have R32 := R0.trans cr32
      have C32 := cr32.1
      have hk32 := Nat.le_refl T32.heap.size
      obtain ⟨s115, rfl, N32q, sz32, K32, f32_0⟩ := hQ32
      have N32 := Fr.app N0 N32q
      have ge_s115 : n0 ≤ s115 := Nat.le_trans Z0 sz32
      have Z32 : n0 ≤ T32.heap.size := Nat.le_trans Z0 K32.1
      refine Done.st (B := T32.setTop (mkF m 118 #[.val (.int x0), .val (.int x1), .val (.int x2), .val (.int x3), .val (.int x4), .val (.int x5), .val (.int i), .val (.int j), .val (.int la), .val (.int lb), .val (.int cc0), .val (.int cc1), .val (.int cc2), .val (.int dd0), .val (.int dd1), .val (.int dd2), .val (.int (0 : Int32)), .unset, .unset, .unset, .unset, .unset] [(.ref s115)])) (fun _ k => st32.trans k) ?_
      refine Done.st (B := T32.setTop (mkF m 120 #[.val (.int x0), .val (.int x1), .val (.int x2), .val (.int x3), .val (.int x4), .val (.int x5), .val (.int i), .val (.int j), .val (.int la), .val (.int lb), .val (.int cc0), .val (.int cc1), .val (.int cc2), .val (.int dd0), .val (.int dd1), .val (.int dd2), .val (.int (0 : Int32)), .val (.ref s115), .unset, .unset, .unset, .unset] [])) (fun _ k => XS.astore X32.here hx rfl (hb hby at_118) rfl rfl (l' := #[.val (.int x0), .val (.int x1), .val (.int x2), .val (.int x3), .val (.int x4), .val (.int x5), .val (.int i), .val (.int j), .val (.int la), .val (.int lb), .val (.int cc0), .val (.int cc1), .val (.int cc2), .val (.int dd0), .val (.int dd1), .val (.int dd2), .val (.int (0 : Int32)), .val (.ref s115), .unset, .unset, .unset, .unset]) rfl k) ?_
      refine Done.st (B := T32.setTop (mkF m 122 #[.val (.int x0), .val (.int x1), .val (.int x2), .val (.int x3), .val (.int x4), .val (.int x5), .val (.int i), .val (.int j), .val (.int la), .val (.int lb), .val (.int cc0), .val (.int cc1), .val (.int cc2), .val (.int dd0), .val (.int dd1), .val (.int dd2), .val (.int (0 : Int32)), .val (.ref s115), .unset, .unset, .unset, .unset] [(.int lb)])) (fun _ k => XS.iload X32.here hx rfl (hb hby at_120) rfl k) ?_
      refine Done.st (B := T32.setTop (mkF m 124 #[.val (.int x0), .val (.int x1), .val (.int x2), .val (.int x3), .val (.int x4), .val (.int x5), .val (.int i), .val (.int j), .val (.int la), .val (.int lb), .val (.int cc0), .val (.int cc1), .val (.int cc2), .val (.int dd0), .val (.int dd1), .val (.int dd2), .val (.int (0 : Int32)), .val (.ref s115), .unset, .unset, .unset, .unset] [(.int cc0), (.int lb)])) (fun _ k => XS.iload X32.here hx rfl (hb hby at_122) rfl k) ?_
      refine Done.st (B := T32.setTop (mkF m 126 #[.val (.int x0), .val (.int x1), .val (.int x2), .val (.int x3), .val (.int x4), .val (.int x5), .val (.int i), .val (.int j), .val (.int la), .val (.int lb), .val (.int cc0), .val (.int cc1), .val (.int cc2), .val (.int dd0), .val (.int dd1), .val (.int dd2), .val (.int (0 : Int32)), .val (.ref s115), .unset, .unset, .unset, .unset] [(.int dd0), (.int cc0), (.int lb)])) (fun _ k => XS.iload X32.here hx rfl (hb hby at_124) rfl k) ?_
      refine Done.st (B := T32.setTop (mkF m 127 #[.val (.int x0), .val (.int x1), .val (.int x2), .val (.int x3), .val (.int x4), .val (.int x5), .val (.int i), .val (.int j), .val (.int la), .val (.int lb), .val (.int cc0), .val (.int cc1), .val (.int cc2), .val (.int dd0), .val (.int dd1), .val (.int dd2), .val (.int (0 : Int32)), .val (.ref s115), .unset, .unset, .unset, .unset] [(.int (cc0 ^^^ dd0)), (.int lb)])) (fun _ k => XS.ixor X32.here hx rfl (hb hby at_126) rfl k) ?_
      refine Done.st (B := T32.setTop (mkF m 128 #[.val (.int x0), .val (.int x1), .val (.int x2), .val (.int x3), .val (.int x4), .val (.int x5), .val (.int i), .val (.int j), .val (.int la), .val (.int lb), .val (.int cc0), .val (.int cc1), .val (.int cc2), .val (.int dd0), .val (.int dd1), .val (.int dd2), .val (.int (0 : Int32)), .val (.ref s115), .unset, .unset, .unset, .unset] [(.int ((cc0 ^^^ dd0).toUInt32.toUInt16.toUInt32.toInt32)), (.int lb)])) (fun _ k => XS.i2c X32.here hx rfl (hb hby at_127) rfl k) ?_
      refine Done.st (B := T32.setTop (mkF m 130 #[.val (.int x0), .val (.int x1), .val (.int x2), .val (.int x3), .val (.int x4), .val (.int x5), .val (.int i), .val (.int j), .val (.int la), .val (.int lb), .val (.int cc0), .val (.int cc1), .val (.int cc2), .val (.int dd0), .val (.int dd1), .val (.int dd2), .val (.int (0 : Int32)), .val (.ref s115), .unset, .unset, .unset, .unset] [(.int cc1), (.int ((cc0 ^^^ dd0).toUInt32.toUInt16.toUInt32.toInt32)), (.int lb)])) (fun _ k => XS.iload X32.here hx rfl (hb hby at_128) rfl k) ?_
      refine Done.st (B := T32.setTop (mkF m 132 #[.val (.int x0), .val (.int x1), .val (.int x2), .val (.int x3), .val (.int x4), .val (.int x5), .val (.int i), .val (.int j), .val (.int la), .val (.int lb), .val (.int cc0), .val (.int cc1), .val (.int cc2), .val (.int dd0), .val (.int dd1), .val (.int dd2), .val (.int (0 : Int32)), .val (.ref s115), .unset, .unset, .unset, .unset] [(.int dd1), (.int cc1), (.int ((cc0 ^^^ dd0).toUInt32.toUInt16.toUInt32.toInt32)), (.int lb)])) (fun _ k => XS.iload X32.here hx rfl (hb hby at_130) rfl k) ?_
      refine Done.st (B := T32.setTop (mkF m 133 #[.val (.int x0), .val (.int x1), .val (.int x2), .val (.int x3), .val (.int x4), .val (.int x5), .val (.int i), .val (.int j), .val (.int la), .val (.int lb), .val (.int cc0), .val (.int cc1), .val (.int cc2), .val (.int dd0), .val (.int dd1), .val (.int dd2), .val (.int (0 : Int32)), .val (.ref s115), .unset, .unset, .unset, .unset] [(.int (cc1 ^^^ dd1)), (.int ((cc0 ^^^ dd0).toUInt32.toUInt16.toUInt32.toInt32)), (.int lb)])) (fun _ k => XS.ixor X32.here hx rfl (hb hby at_132) rfl k) ?_
      refine Done.st (B := T32.setTop (mkF m 134 #[.val (.int x0), .val (.int x1), .val (.int x2), .val (.int x3), .val (.int x4), .val (.int x5), .val (.int i), .val (.int j), .val (.int la), .val (.int lb), .val (.int cc0), .val (.int cc1), .val (.int cc2), .val (.int dd0), .val (.int dd1), .val (.int dd2), .val (.int (0 : Int32)), .val (.ref s115), .unset, .unset, .unset, .unset] [(.int ((cc1 ^^^ dd1).toUInt32.toUInt16.toUInt32.toInt32)), (.int ((cc0 ^^^ dd0).toUInt32.toUInt16.toUInt32.toInt32)), (.int lb)])) (fun _ k => XS.i2c X32.here hx rfl (hb hby at_133) rfl k) ?_
      refine Done.st (B := T32.setTop (mkF m 136 #[.val (.int x0), .val (.int x1), .val (.int x2), .val (.int x3), .val (.int x4), .val (.int x5), .val (.int i), .val (.int j), .val (.int la), .val (.int lb), .val (.int cc0), .val (.int cc1), .val (.int cc2), .val (.int dd0), .val (.int dd1), .val (.int dd2), .val (.int (0 : Int32)), .val (.ref s115), .unset, .unset, .unset, .unset] [(.int cc2), (.int ((cc1 ^^^ dd1).toUInt32.toUInt16.toUInt32.toInt32)), (.int ((cc0 ^^^ dd0).toUInt32.toUInt16.toUInt32.toInt32)), (.int lb)])) (fun _ k => XS.iload X32.here hx rfl (hb hby at_134) rfl k) ?_
      refine Done.st (B := T32.setTop (mkF m 138 #[.val (.int x0), .val (.int x1), .val (.int x2), .val (.int x3), .val (.int x4), .val (.int x5), .val (.int i), .val (.int j), .val (.int la), .val (.int lb), .val (.int cc0), .val (.int cc1), .val (.int cc2), .val (.int dd0), .val (.int dd1), .val (.int dd2), .val (.int (0 : Int32)), .val (.ref s115), .unset, .unset, .unset, .unset] [(.int dd2), (.int cc2), (.int ((cc1 ^^^ dd1).toUInt32.toUInt16.toUInt32.toInt32)), (.int ((cc0 ^^^ dd0).toUInt32.toUInt16.toUInt32.toInt32)), (.int lb)])) (fun _ k => XS.iload X32.here hx rfl (hb hby at_136) rfl k) ?_
      refine Done.st (B := T32.setTop (mkF m 139 #[.val (.int x0), .val (.int x1), .val (.int x2), .val (.int x3), .val (.int x4), .val (.int x5), .val (.int i), .val (.int j), .val (.int la), .val (.int lb), .val (.int cc0), .val (.int cc1), .val (.int cc2), .val (.int dd0), .val (.int dd1), .val (.int dd2), .val (.int (0 : Int32)), .val (.ref s115), .unset, .unset, .unset, .unset] [(.int (cc2 ^^^ dd2)), (.int ((cc1 ^^^ dd1).toUInt32.toUInt16.toUInt32.toInt32)), (.int ((cc0 ^^^ dd0).toUInt32.toUInt16.toUInt32.toInt32)), (.int lb)])) (fun _ k => XS.ixor X32.here hx rfl (hb hby at_138) rfl k) ?_
      refine Done.st (B := T32.setTop (mkF m 140 #[.val (.int x0), .val (.int x1), .val (.int x2), .val (.int x3), .val (.int x4), .val (.int x5), .val (.int i), .val (.int j), .val (.int la), .val (.int lb), .val (.int cc0), .val (.int cc1), .val (.int cc2), .val (.int dd0), .val (.int dd1), .val (.int dd2), .val (.int (0 : Int32)), .val (.ref s115), .unset, .unset, .unset, .unset] [(.int ((cc2 ^^^ dd2).toUInt32.toUInt16.toUInt32.toInt32)), (.int ((cc1 ^^^ dd1).toUInt32.toUInt16.toUInt32.toInt32)), (.int ((cc0 ^^^ dd0).toUInt32.toUInt16.toUInt32.toInt32)), (.int lb)])) (fun _ k => XS.i2c X32.here hx rfl (hb hby at_139) rfl k) ?_
      have c33 := (own_sta_keep S_z K32 all0)
      obtain ⟨_, _, ⟨T34, L34, k34, n34⟩, -, X34, hs34, hg34, ⟨Lc34, hQ34, l34, y34, z34, cr34⟩, st34⟩ := callSS X32 hx (y := (⟨"com/example/libbuchi/libbuchi/automaton/TokenIsPinLaw", "build", "(ICCC)Ljava/lang/String;"⟩ : MethodName)) hown (mvT hZ (hw _ (List.mem_of_getElem? (i := 1) rfl))) (mvT hZ (hw _ (List.mem_of_getElem? (i := 2) rfl))) (mvT hZ (hw _ (List.mem_of_getElem? (i := 3) rfl))) (mvT hZ (hw _ (List.mem_of_getElem? (i := 4) rfl))) (by decide) (backOfSH (W := 0) (rmB l Z a0 hw [] lb ((cc0 ^^^ dd0).toUInt32.toUInt16.toUInt32.toInt32) ((cc1 ^^^ dd1).toUInt32.toUInt16.toUInt32.toInt32) ((cc2 ^^^ dd2).toUInt32.toUInt16.toUInt32.toInt32) z T32.heap n0 Z32 c33 hz (own_icok (own_x8 h_c0 h_d0)) (own_icok (own_x8 h_c1 h_d1)) (own_icok (own_x8 h_c2 h_d2))) hZ (hw _ (List.mem_of_getElem? (i := 4) rfl)) (hw _ (List.mem_of_getElem? (i := 3) rfl)) (by decide) (by decide) hEL C32) (g := (mkF m 140 #[.val (.int x0), .val (.int x1), .val (.int x2), .val (.int x3), .val (.int x4), .val (.int x5), .val (.int i), .val (.int j), .val (.int la), .val (.int lb), .val (.int cc0), .val (.int cc1), .val (.int cc2), .val (.int dd0), .val (.int dd1), .val (.int dd2), .val (.int (0 : Int32)), .val (.ref s115), .unset, .unset, .unset, .unset] [(.int ((cc2 ^^^ dd2).toUInt32.toUInt16.toUInt32.toInt32)), (.int ((cc1 ^^^ dd1).toUInt32.toUInt16.toUInt32.toInt32)), (.int ((cc0 ^^^ dd0).toUInt32.toUInt16.toUInt32.toInt32)), (.int lb)])) rfl (by rw [hml]; rfl) (argsL := [(.int lb), (.int ((cc0 ^^^ dd0).toUInt32.toUInt16.toUInt32.toInt32)), (.int ((cc1 ^^^ dd1).toUInt32.toUInt16.toUInt32.toInt32)), (.int ((cc2 ^^^ dd2).toUInt32.toUInt16.toUInt32.toInt32))]) (rest := []) (lenOf pd_3 rfl) rfl (by show 2 * 0 + _ ≤ _; exact Nat.le_of_eq rfl) (hb hby at_140) (fun _ _ => ⟨rfl, rfl, (by decide : 4 + 4 ≤ _), (by decide : 10 + 10 ≤ _)⟩)
      dsimp only [Pt.U, Pt.locs, Pt.cells, Pt.slots] at X34 l34 y34 z34 st34 hQ34 hs34 hg34 cr34
      subst l34 y34 z34
      obtain ⟨X34, hS34, hZ, hown⟩ := rebS hS32 hk32 X34 hs34 hg34 hZ hown
      have R34 := R32.trans cr34
      have C34 := cr34.1
      have hk34 := Nat.le_refl T34.heap.size
      obtain ⟨s140, rfl, N34q, sz34, K34, f34_0⟩ := hQ34
      have N34 := Fr.app N32 N34q
      have ne_s115_s140 : s115 ≠ s140 := Nat.ne_of_lt (Nat.lt_of_lt_of_le f32_0.lt sz34)
      have ge_s140 : n0 ≤ s140 := Nat.le_trans Z32 sz34
      have Z34 : n0 ≤ T34.heap.size := Nat.le_trans Z32 K34.1
      refine Done.st (B := T34.setTop (mkF m 143 #[.val (.int x0), .val (.int x1), .val (.int x2), .val (.int x3), .val (.int x4), .val (.int x5), .val (.int i), .val (.int j), .val (.int la), .val (.int lb), .val (.int cc0), .val (.int cc1), .val (.int cc2), .val (.int dd0), .val (.int dd1), .val (.int dd2), .val (.int (0 : Int32)), .val (.ref s115), .unset, .unset, .unset, .unset] [(.ref s140)])) (fun _ k => st34.trans k) ?_
      refine Done.st (B := T34.setTop (mkF m 145 #[.val (.int x0), .val (.int x1), .val (.int x2), .val (.int x3), .val (.int x4), .val (.int x5), .val (.int i), .val (.int j), .val (.int la), .val (.int lb), .val (.int cc0), .val (.int cc1), .val (.int cc2), .val (.int dd0), .val (.int dd1), .val (.int dd2), .val (.int (0 : Int32)), .val (.ref s115), .val (.ref s140), .unset, .unset, .unset] [])) (fun _ k => XS.astore X34.here hx rfl (hb hby at_143) rfl rfl (l' := #[.val (.int x0), .val (.int x1), .val (.int x2), .val (.int x3), .val (.int x4), .val (.int x5), .val (.int i), .val (.int j), .val (.int la), .val (.int lb), .val (.int cc0), .val (.int cc1), .val (.int cc2), .val (.int dd0), .val (.int dd1), .val (.int dd2), .val (.int (0 : Int32)), .val (.ref s115), .val (.ref s140), .unset, .unset, .unset]) rfl k) ?_
      obtain ⟨T35, h35, X35, e35, E35, A35, D35, -, st35⟩ := newO X34 hx hZ hown (hw _ (List.mem_of_getElem? (i := 38) rfl)) (hw _ (List.mem_of_getElem? (i := 39) rfl)) (hw _ (List.mem_of_getElem? (i := 40) rfl)) rfl (g := (mkF m 145 #[.val (.int x0), .val (.int x1), .val (.int x2), .val (.int x3), .val (.int x4), .val (.int x5), .val (.int i), .val (.int j), .val (.int la), .val (.int lb), .val (.int cc0), .val (.int cc1), .val (.int cc2), .val (.int dd0), .val (.int dd1), .val (.int dd2), .val (.int (0 : Int32)), .val (.ref s115), .val (.ref s140), .unset, .unset, .unset] [])) rfl (hb hby at_145) (by decide) (by decide)
      have c36 := (f32_0.keep K34 nin0 all0)
      obtain ⟨b35, g35⟩ : ∃ z, z = T34.heap.size := ⟨_, rfl⟩
      rw [← g35] at A35 D35 st35
      have ne_s115_b35 : s115 ≠ b35 := Nat.ne_of_lt (Nat.lt_of_lt_of_le c36.lt (Nat.le_of_eq g35.symm))
      have ne_s140_b35 : s140 ≠ b35 := Nat.ne_of_lt (Nat.lt_of_lt_of_le f34_0.lt (Nat.le_of_eq g35.symm))
      have ge_b35 : n0 ≤ b35 := Nat.le_trans Z34 (Nat.le_of_eq g35.symm)
      have Z35 : n0 ≤ h35.size := Nat.le_trans Z34 E35.1
      have F35_kind : Fld Z h35 b35 "com/example/libbuchi/libbuchi/automaton/HoaTokenizer$Token" "kind" "Lcom/example/libbuchi/libbuchi/automaton/HoaTokenizer$Kind;" .null := D35 (Or.inr (hw _ (List.mem_of_getElem? (i := 52) rfl))) (ty := (.object "com/example/libbuchi/libbuchi/automaton/HoaTokenizer$Kind")) (by decide)
      have F35_text : Fld Z h35 b35 "com/example/libbuchi/libbuchi/automaton/HoaTokenizer$Token" "text" "Ljava/lang/String;" .null := D35 (Or.inr (hw _ (List.mem_of_getElem? (i := 54) rfl))) (ty := (.object "java/lang/String")) (by decide)
      have F35_line : Fld Z h35 b35 "com/example/libbuchi/libbuchi/automaton/HoaTokenizer$Token" "line" "I" (.int (0 : Int32)) := D35 (Or.inr (hw _ (List.mem_of_getElem? (i := 56) rfl))) (ty := .int) (by decide)
      have C35 := CHv.ext E35 C34
      have R35 := R34.trans (CHr.ext E35 C34)
      have hk35 := Nat.le_trans hk34 E35.1
      refine Done.st (B := T35.setTop (mkF m 148 #[.val (.int x0), .val (.int x1), .val (.int x2), .val (.int x3), .val (.int x4), .val (.int x5), .val (.int i), .val (.int j), .val (.int la), .val (.int lb), .val (.int cc0), .val (.int cc1), .val (.int cc2), .val (.int dd0), .val (.int dd1), .val (.int dd2), .val (.int (0 : Int32)), .val (.ref s115), .val (.ref s140), .unset, .unset, .unset] [(.ref b35)])) (fun _ k => st35 _ k) ?_
      refine Done.st (B := T35.setTop (mkF m 149 #[.val (.int x0), .val (.int x1), .val (.int x2), .val (.int x3), .val (.int x4), .val (.int x5), .val (.int i), .val (.int j), .val (.int la), .val (.int lb), .val (.int cc0), .val (.int cc1), .val (.int cc2), .val (.int dd0), .val (.int dd1), .val (.int dd2), .val (.int (0 : Int32)), .val (.ref s115), .val (.ref s140), .unset, .unset, .unset] [(.ref b35), (.ref b35)])) (fun _ k => XS.dup X35.here hx rfl (hb hby at_148) rfl rfl k) ?_
      refine Done.st (B := T35.setTop (mkF m 151 #[.val (.int x0), .val (.int x1), .val (.int x2), .val (.int x3), .val (.int x4), .val (.int x5), .val (.int i), .val (.int j), .val (.int la), .val (.int lb), .val (.int cc0), .val (.int cc1), .val (.int cc2), .val (.int dd0), .val (.int dd1), .val (.int dd2), .val (.int (0 : Int32)), .val (.ref s115), .val (.ref s140), .unset, .unset, .unset] [(.int i), (.ref b35), (.ref b35)])) (fun _ k => XS.iload X35.here hx rfl (hb hby at_149) rfl k) ?_
      have c37 := (Sta.ext E35 (own_sta_keep (own_sta_keep S_HEADER K32 all0) K34 all0))
      have c38 := (Sta.ext E35 (own_sta_keep (own_sta_keep S_IDENTIFIER K32 all0) K34 all0))
      have c39 := (Sta.ext E35 (own_sta_keep (own_sta_keep S_INTEGER K32 all0) K34 all0))
      have c40 := (Sta.ext E35 (own_sta_keep (own_sta_keep S_STRING K32 all0) K34 all0))
      have c41 := (Sta.ext E35 (own_sta_keep (own_sta_keep S_ALIAS K32 all0) K34 all0))
      have c42 := (Sta.ext E35 (own_sta_keep (own_sta_keep S_PUNCTUATION K32 all0) K34 all0))
      have c43 := (Sta.ext E35 (own_sta_keep (own_sta_keep S_BODY K32 all0) K34 all0))
      have c44 := (Sta.ext E35 (own_sta_keep (own_sta_keep S_END K32 all0) K34 all0))
      have c45 := (Sta.ext E35 (own_sta_keep (own_sta_keep S_ABORT K32 all0) K34 all0))
      have c46 := (Sta.ext E35 (own_sta_keep (own_sta_keep S_EOF K32 all0) K34 all0))
      obtain ⟨_, _, ⟨T47, L47, k47, n47⟩, -, X47, ⟨Lc47, hQ47, l47, y47, z47⟩, st47⟩ := Jvm.LawKit.callS X35 hx (y := (⟨"com/example/libbuchi/libbuchi/automaton/TokenIsPinLaw", "kindOf", "(I)Lcom/example/libbuchi/libbuchi/automaton/HoaTokenizer$Kind;"⟩ : MethodName)) hown (mvT hZ (hw _ (List.mem_of_getElem? (i := 41) rfl))) (mvT hZ (hw _ (List.mem_of_getElem? (i := 42) rfl))) (mvT hZ (hw _ (List.mem_of_getElem? (i := 3) rfl))) (mvT hZ (hw _ (List.mem_of_getElem? (i := 43) rfl))) (by decide) (backOf (W := 2) (rmK l Z a0 hw [] i w_HEADER w_IDENTIFIER w_INTEGER w_STRING w_ALIAS w_PUNCTUATION w_BODY w_END w_ABORT w_EOF h35 n0 Z35 c37 c38 c39 c40 c41 c42 c43 c44 c45 c46) hZ (hw _ (List.mem_of_getElem? (i := 43) rfl)) (hw _ (List.mem_of_getElem? (i := 3) rfl)) (by decide) (by decide)) (g := (mkF m 151 #[.val (.int x0), .val (.int x1), .val (.int x2), .val (.int x3), .val (.int x4), .val (.int x5), .val (.int i), .val (.int j), .val (.int la), .val (.int lb), .val (.int cc0), .val (.int cc1), .val (.int cc2), .val (.int dd0), .val (.int dd1), .val (.int dd2), .val (.int (0 : Int32)), .val (.ref s115), .val (.ref s140), .unset, .unset, .unset] [(.int i), (.ref b35), (.ref b35)])) rfl (by rw [hml]; rfl) (argsL := [(.int i)]) (rest := [(.ref b35), (.ref b35)]) (lenOf pd_4 rfl) rfl (by show 2 * 0 + _ ≤ _; exact Nat.le_of_eq rfl) (hb hby at_151) (fun _ _ => ⟨rfl, e35, (by decide : 9 + 0 ≤ _), (by decide : 23 + 0 ≤ _)⟩)
      dsimp only [Pt.U, Pt.locs, Pt.cells, Pt.slots] at X47 l47 y47 z47 st47 hQ47
      subst l47 y47 z47
      obtain ⟨rfl, N47q, e47⟩ := hQ47
      have N47 := Fr.app N34 N47q
      refine Done.st (B := T47.setTop (mkF m 154 #[.val (.int x0), .val (.int x1), .val (.int x2), .val (.int x3), .val (.int x4), .val (.int x5), .val (.int i), .val (.int j), .val (.int la), .val (.int lb), .val (.int cc0), .val (.int cc1), .val (.int cc2), .val (.int dd0), .val (.int dd1), .val (.int dd2), .val (.int (0 : Int32)), .val (.ref s115), .val (.ref s140), .unset, .unset, .unset] [(.ref (own_kd i w_HEADER w_IDENTIFIER w_INTEGER w_STRING w_ALIAS w_PUNCTUATION w_BODY w_END w_ABORT w_EOF)), (.ref b35), (.ref b35)])) (fun _ k => st47 _ k) ?_
      refine Done.st (B := T47.setTop (mkF m 156 #[.val (.int x0), .val (.int x1), .val (.int x2), .val (.int x3), .val (.int x4), .val (.int x5), .val (.int i), .val (.int j), .val (.int la), .val (.int lb), .val (.int cc0), .val (.int cc1), .val (.int cc2), .val (.int dd0), .val (.int dd1), .val (.int dd2), .val (.int (0 : Int32)), .val (.ref s115), .val (.ref s140), .unset, .unset, .unset] [(.ref s115), (.ref (own_kd i w_HEADER w_IDENTIFIER w_INTEGER w_STRING w_ALIAS w_PUNCTUATION w_BODY w_END w_ABORT w_EOF)), (.ref b35), (.ref b35)])) (fun _ k => XS.aload X47.here hx rfl (hb hby at_154) rfl rfl k) ?_
      refine Done.st (B := T47.setTop (mkF m 158 #[.val (.int x0), .val (.int x1), .val (.int x2), .val (.int x3), .val (.int x4), .val (.int x5), .val (.int i), .val (.int j), .val (.int la), .val (.int lb), .val (.int cc0), .val (.int cc1), .val (.int cc2), .val (.int dd0), .val (.int dd1), .val (.int dd2), .val (.int (0 : Int32)), .val (.ref s115), .val (.ref s140), .unset, .unset, .unset] [(.int x4), (.ref s115), (.ref (own_kd i w_HEADER w_IDENTIFIER w_INTEGER w_STRING w_ALIAS w_PUNCTUATION w_BODY w_END w_ABORT w_EOF)), (.ref b35), (.ref b35)])) (fun _ k => XS.iload X47.here hx rfl (hb hby at_156) rfl k) ?_
      obtain ⟨_, _, ⟨T48, L48, k48, n48⟩, -, X48, ⟨Lc48, hQ48, l48, y48, z48⟩, st48⟩ := X47.specialBack hx (y := (⟨"com/example/libbuchi/libbuchi/automaton/HoaTokenizer$Token", "<init>", "(Lcom/example/libbuchi/libbuchi/automaton/HoaTokenizer$Kind;Ljava/lang/String;I)V"⟩ : MethodName)) rfl hown (mvT hZ (hw _ (List.mem_of_getElem? (i := 47) rfl))) (mvT hZ (hw _ (List.mem_of_getElem? (i := 48) rfl))) (mvT hZ (hw _ (List.mem_of_getElem? (i := 49) rfl))) (by decide) (backOf (W := 1) (rmT l Z a0 hw [] b35 (own_kd i w_HEADER w_IDENTIFIER w_INTEGER w_STRING w_ALIAS w_PUNCTUATION w_BODY w_END w_ABORT w_EOF) s115 x4 h35 n0 Z35 F35_kind F35_text F35_line A35 ge_b35) hZ (hw _ (List.mem_of_getElem? (i := 49) rfl)) (hw _ (List.mem_of_getElem? (i := 40) rfl)) (by decide) (by decide)) (g := (mkF m 158 #[.val (.int x0), .val (.int x1), .val (.int x2), .val (.int x3), .val (.int x4), .val (.int x5), .val (.int i), .val (.int j), .val (.int la), .val (.int lb), .val (.int cc0), .val (.int cc1), .val (.int cc2), .val (.int dd0), .val (.int dd1), .val (.int dd2), .val (.int (0 : Int32)), .val (.ref s115), .val (.ref s140), .unset, .unset, .unset] [(.int x4), (.ref s115), (.ref (own_kd i w_HEADER w_IDENTIFIER w_INTEGER w_STRING w_ALIAS w_PUNCTUATION w_BODY w_END w_ABORT w_EOF)), (.ref b35), (.ref b35)])) rfl (by rw [hml]; rfl) (Steps.refl _) (a := b35) (argsL := [(.ref (own_kd i w_HEADER w_IDENTIFIER w_INTEGER w_STRING w_ALIAS w_PUNCTUATION w_BODY w_END w_ABORT w_EOF)), (.ref s115), (.int x4)]) (rest := [(.ref b35)]) (lenOf pd_5 rfl) rfl (by show 2 * 0 + _ ≤ _; exact Nat.le_of_eq rfl) (hb hby at_158) (fun _ _ => ⟨rfl, e47, (by decide : 9 + 0 ≤ _), (by decide : 23 + 0 ≤ _)⟩)
      dsimp only [Pt.U, Pt.locs, Pt.cells, Pt.slots] at X48 l48 y48 z48 st48 hQ48
      subst l48 y48 z48
      obtain ⟨rfl, N48q, K48, f48_0, f48_1, f48_2, f48_3⟩ := hQ48
      have N48 := Fr.app N47 N48q
      have na48_b35 := own_na_exa A35 (hw _ (List.mem_of_getElem? (i := 39) rfl))
      have C48 := CHv.keep K48 (sfS (Safe.exa (EL := own_EL) hZ.alike A35 (by decide) (by decide)) sf0) C35
      have R48 := R35.trans (CHr.keep K48 (sfS (Safe.exa (EL := own_EL) hZ.alike A35 (by decide) (by decide)) sf0) C35)
      have hk48 := Nat.le_trans hk35 K48.1
      have Z48 : n0 ≤ T48.heap.size := Nat.le_trans Z35 K48.1
      refine Done.st (B := T48.setTop (mkF m 161 #[.val (.int x0), .val (.int x1), .val (.int x2), .val (.int x3), .val (.int x4), .val (.int x5), .val (.int i), .val (.int j), .val (.int la), .val (.int lb), .val (.int cc0), .val (.int cc1), .val (.int cc2), .val (.int dd0), .val (.int dd1), .val (.int dd2), .val (.int (0 : Int32)), .val (.ref s115), .val (.ref s140), .unset, .unset, .unset] [(.ref b35)])) (fun _ k => st48.trans k) ?_
      refine Done.st (B := T48.setTop (mkF m 163 #[.val (.int x0), .val (.int x1), .val (.int x2), .val (.int x3), .val (.int x4), .val (.int x5), .val (.int i), .val (.int j), .val (.int la), .val (.int lb), .val (.int cc0), .val (.int cc1), .val (.int cc2), .val (.int dd0), .val (.int dd1), .val (.int dd2), .val (.int (0 : Int32)), .val (.ref s115), .val (.ref s140), .val (.ref b35), .unset, .unset] [])) (fun _ k => XS.astore X48.here hx rfl (hb hby at_161) rfl rfl (l' := #[.val (.int x0), .val (.int x1), .val (.int x2), .val (.int x3), .val (.int x4), .val (.int x5), .val (.int i), .val (.int j), .val (.int la), .val (.int lb), .val (.int cc0), .val (.int cc1), .val (.int cc2), .val (.int dd0), .val (.int dd1), .val (.int dd2), .val (.int (0 : Int32)), .val (.ref s115), .val (.ref s140), .val (.ref b35), .unset, .unset]) rfl k) ?_
      refine Done.st (B := T48.setTop (mkF m 165 #[.val (.int x0), .val (.int x1), .val (.int x2), .val (.int x3), .val (.int x4), .val (.int x5), .val (.int i), .val (.int j), .val (.int la), .val (.int lb), .val (.int cc0), .val (.int cc1), .val (.int cc2), .val (.int dd0), .val (.int dd1), .val (.int dd2), .val (.int (0 : Int32)), .val (.ref s115), .val (.ref s140), .val (.ref b35), .unset, .unset] [(.ref b35)])) (fun _ k => XS.aload X48.here hx rfl (hb hby at_163) rfl rfl k) ?_
      refine Done.st (B := T48.setTop (mkF m 167 #[.val (.int x0), .val (.int x1), .val (.int x2), .val (.int x3), .val (.int x4), .val (.int x5), .val (.int i), .val (.int j), .val (.int la), .val (.int lb), .val (.int cc0), .val (.int cc1), .val (.int cc2), .val (.int dd0), .val (.int dd1), .val (.int dd2), .val (.int (0 : Int32)), .val (.ref s115), .val (.ref s140), .val (.ref b35), .unset, .unset] [(.int j), (.ref b35)])) (fun _ k => XS.iload X48.here hx rfl (hb hby at_165) rfl k) ?_
      have c49 := (own_sta_keep c37 K48 (allS (own_ns_exa A35) all0))
      have c50 := (own_sta_keep c38 K48 (allS (own_ns_exa A35) all0))
      have c51 := (own_sta_keep c39 K48 (allS (own_ns_exa A35) all0))
      have c52 := (own_sta_keep c40 K48 (allS (own_ns_exa A35) all0))
      have c53 := (own_sta_keep c41 K48 (allS (own_ns_exa A35) all0))
      have c54 := (own_sta_keep c42 K48 (allS (own_ns_exa A35) all0))
      have c55 := (own_sta_keep c43 K48 (allS (own_ns_exa A35) all0))
      have c56 := (own_sta_keep c44 K48 (allS (own_ns_exa A35) all0))
      have c57 := (own_sta_keep c45 K48 (allS (own_ns_exa A35) all0))
      have c58 := (own_sta_keep c46 K48 (allS (own_ns_exa A35) all0))
      obtain ⟨_, _, ⟨T59, L59, k59, n59⟩, -, X59, ⟨Lc59, hQ59, l59, y59, z59⟩, st59⟩ := Jvm.LawKit.callS X48 hx (y := (⟨"com/example/libbuchi/libbuchi/automaton/TokenIsPinLaw", "kindOf", "(I)Lcom/example/libbuchi/libbuchi/automaton/HoaTokenizer$Kind;"⟩ : MethodName)) hown (mvT hZ (hw _ (List.mem_of_getElem? (i := 41) rfl))) (mvT hZ (hw _ (List.mem_of_getElem? (i := 42) rfl))) (mvT hZ (hw _ (List.mem_of_getElem? (i := 3) rfl))) (mvT hZ (hw _ (List.mem_of_getElem? (i := 43) rfl))) (by decide) (backOf (W := 1) (rmK l Z a0 hw [] j w_HEADER w_IDENTIFIER w_INTEGER w_STRING w_ALIAS w_PUNCTUATION w_BODY w_END w_ABORT w_EOF T48.heap n0 Z48 c49 c50 c51 c52 c53 c54 c55 c56 c57 c58) hZ (hw _ (List.mem_of_getElem? (i := 43) rfl)) (hw _ (List.mem_of_getElem? (i := 3) rfl)) (by decide) (by decide)) (g := (mkF m 167 #[.val (.int x0), .val (.int x1), .val (.int x2), .val (.int x3), .val (.int x4), .val (.int x5), .val (.int i), .val (.int j), .val (.int la), .val (.int lb), .val (.int cc0), .val (.int cc1), .val (.int cc2), .val (.int dd0), .val (.int dd1), .val (.int dd2), .val (.int (0 : Int32)), .val (.ref s115), .val (.ref s140), .val (.ref b35), .unset, .unset] [(.int j), (.ref b35)])) rfl (by rw [hml]; rfl) (argsL := [(.int j)]) (rest := [(.ref b35)]) (lenOf pd_4 rfl) rfl (by show 2 * 0 + _ ≤ _; exact Nat.le_of_eq rfl) (hb hby at_167) (fun _ _ => ⟨rfl, rfl, (by decide : 9 + 0 ≤ _), (by decide : 23 + 0 ≤ _)⟩)
      dsimp only [Pt.U, Pt.locs, Pt.cells, Pt.slots] at X59 l59 y59 z59 st59 hQ59
      subst l59 y59 z59
      obtain ⟨rfl, N59q, e59⟩ := hQ59
      have N59 := Fr.app N48 N59q
      refine Done.st (B := T59.setTop (mkF m 170 #[.val (.int x0), .val (.int x1), .val (.int x2), .val (.int x3), .val (.int x4), .val (.int x5), .val (.int i), .val (.int j), .val (.int la), .val (.int lb), .val (.int cc0), .val (.int cc1), .val (.int cc2), .val (.int dd0), .val (.int dd1), .val (.int dd2), .val (.int (0 : Int32)), .val (.ref s115), .val (.ref s140), .val (.ref b35), .unset, .unset] [(.ref (own_kd j w_HEADER w_IDENTIFIER w_INTEGER w_STRING w_ALIAS w_PUNCTUATION w_BODY w_END w_ABORT w_EOF)), (.ref b35)])) (fun _ k => st59 _ k) ?_
      refine Done.st (B := T59.setTop (mkF m 172 #[.val (.int x0), .val (.int x1), .val (.int x2), .val (.int x3), .val (.int x4), .val (.int x5), .val (.int i), .val (.int j), .val (.int la), .val (.int lb), .val (.int cc0), .val (.int cc1), .val (.int cc2), .val (.int dd0), .val (.int dd1), .val (.int dd2), .val (.int (0 : Int32)), .val (.ref s115), .val (.ref s140), .val (.ref b35), .unset, .unset] [(.int (0 : Int32)), (.ref (own_kd j w_HEADER w_IDENTIFIER w_INTEGER w_STRING w_ALIAS w_PUNCTUATION w_BODY w_END w_ABORT w_EOF)), (.ref b35)])) (fun _ k => XS.iload X59.here hx rfl (hb hby at_170) rfl k) ?_
      refine Done.st (B := T59.setTop (mkF m 179 #[.val (.int x0), .val (.int x1), .val (.int x2), .val (.int x3), .val (.int x4), .val (.int x5), .val (.int i), .val (.int j), .val (.int la), .val (.int lb), .val (.int cc0), .val (.int cc1), .val (.int cc2), .val (.int dd0), .val (.int dd1), .val (.int dd2), .val (.int (0 : Int32)), .val (.ref s115), .val (.ref s140), .val (.ref b35), .unset, .unset] [(.ref (own_kd j w_HEADER w_IDENTIFIER w_INTEGER w_STRING w_ALIAS w_PUNCTUATION w_BODY w_END w_ABORT w_EOF)), (.ref b35)])) (fun _ k => XS.ifYes X59.here hx rfl (pc0 := 172) (pc' := 179) rfl (hb hby at_172) rfl ((if0 _ _).trans (teq (rfl : (0 : Int32) = (0 : Int32))).1) (by decide) (by decide) k) ?_
      refine Done.st (B := T59.setTop (mkF m 181 #[.val (.int x0), .val (.int x1), .val (.int x2), .val (.int x3), .val (.int x4), .val (.int x5), .val (.int i), .val (.int j), .val (.int la), .val (.int lb), .val (.int cc0), .val (.int cc1), .val (.int cc2), .val (.int dd0), .val (.int dd1), .val (.int dd2), .val (.int (0 : Int32)), .val (.ref s115), .val (.ref s140), .val (.ref b35), .unset, .unset] [(.ref s140), (.ref (own_kd j w_HEADER w_IDENTIFIER w_INTEGER w_STRING w_ALIAS w_PUNCTUATION w_BODY w_END w_ABORT w_EOF)), (.ref b35)])) (fun _ k => XS.aload X59.here hx rfl (hb hby at_179) rfl rfl k) ?_
      have c60 := ((c36.ext E35).keep K48 (ninS ne_s115_b35 nin0) (allS na48_b35 all0))
      have hbc := own_csok (n := la) (own_icok h_c0) (own_icok h_c1) (own_icok h_c2)
      have hbd := own_csok (n := lb) (own_icok (own_x8 h_c0 h_d0)) (own_icok (own_x8 h_c1 h_d1)) (own_icok (own_x8 h_c2 h_d2))
      have c61 := ((f34_0.ext E35).keep K48 (ninS ne_s140_b35 nin0) (allS na48_b35 all0))
      have c62 := (own_sta_keep (Sta.ext E35 (own_sta_keep c33 K34 all0)) K48 (allS (own_ns_exa A35) all0))
      obtain ⟨cq63, kq63, q63a, q63b, q63c⟩ := isOf hZ e59 f48_0
      obtain ⟨_, _, ⟨T63, L63, k63, n63⟩, -, X63, ⟨Lc63, hQ63, l63, y63, z63⟩, st63⟩ := X59.virtualBack hx (y := (⟨"com/example/libbuchi/libbuchi/automaton/HoaTokenizer$Token", "is", "(Lcom/example/libbuchi/libbuchi/automaton/HoaTokenizer$Kind;Ljava/lang/String;)Z"⟩ : MethodName)) (z := (⟨"com/example/libbuchi/libbuchi/automaton/HoaTokenizer$Token", "is", "(Lcom/example/libbuchi/libbuchi/automaton/HoaTokenizer$Kind;Ljava/lang/String;)Z"⟩ : MethodName)) hown (mvT hZ (hw _ (List.mem_of_getElem? (i := 59) rfl))) (mvT hZ (hw _ (List.mem_of_getElem? (i := 60) rfl))) (notFace_of_selects (args := #[]) (mvT hZ (hw _ (List.mem_of_getElem? (i := 62) rfl)))) (mvT hZ (hw _ (List.mem_of_getElem? (i := 62) rfl))) (mvT hZ (hw _ (List.mem_of_getElem? (i := 61) rfl))) (by decide) (backOf (W := 0) (rmIS l Z a0 hw [] b35 (own_kd j w_HEADER w_IDENTIFIER w_INTEGER w_STRING w_ALIAS w_PUNCTUATION w_BODY w_END w_ABORT w_EOF) s140 (own_kd i w_HEADER w_IDENTIFIER w_INTEGER w_STRING w_ALIAS w_PUNCTUATION w_BODY w_END w_ABORT w_EOF) s115 (own_cs la (cc0.toUInt32.toUInt16.toUInt32.toInt32) (cc1.toUInt32.toUInt16.toUInt32.toInt32) (cc2.toUInt32.toUInt16.toUInt32.toInt32)) (own_cs lb ((cc0 ^^^ dd0).toUInt32.toUInt16.toUInt32.toInt32) ((cc1 ^^^ dd1).toUInt32.toUInt16.toUInt32.toInt32) ((cc2 ^^^ dd2).toUInt32.toUInt16.toUInt32.toInt32)) z T48.heap n0 Z48 f48_1 f48_2 c60 c61 hbc hbd (own_cslen _ _ _ _) (own_cslen _ _ _ _) c62 hz) hZ (hw _ (List.mem_of_getElem? (i := 63) rfl)) (hw _ (List.mem_of_getElem? (i := 40) rfl)) (by decide) (by decide)) q63a q63c (g := (mkF m 181 #[.val (.int x0), .val (.int x1), .val (.int x2), .val (.int x3), .val (.int x4), .val (.int x5), .val (.int i), .val (.int j), .val (.int la), .val (.int lb), .val (.int cc0), .val (.int cc1), .val (.int cc2), .val (.int dd0), .val (.int dd1), .val (.int dd2), .val (.int (0 : Int32)), .val (.ref s115), .val (.ref s140), .val (.ref b35), .unset, .unset] [(.ref s140), (.ref (own_kd j w_HEADER w_IDENTIFIER w_INTEGER w_STRING w_ALIAS w_PUNCTUATION w_BODY w_END w_ABORT w_EOF)), (.ref b35)])) rfl (by rw [hml]; rfl) (Steps.refl _) (argsL := [(.ref (own_kd j w_HEADER w_IDENTIFIER w_INTEGER w_STRING w_ALIAS w_PUNCTUATION w_BODY w_END w_ABORT w_EOF)), (.ref s140)]) (rest := []) (lenOf pd_6 rfl) rfl (by show 2 * 0 + _ ≤ _; exact Nat.le_of_eq rfl) (hb hby at_181) (fun _ _ => ⟨rfl, e59, (by decide : 9 + 0 ≤ _), (by decide : 23 + 0 ≤ _)⟩)
      dsimp only [Pt.U, Pt.locs, Pt.cells, Pt.slots] at X63 l63 y63 z63 st63 hQ63
      subst l63 y63 z63
      obtain ⟨rfl, N63q, e63⟩ := hQ63
      have N63 := Fr.app N59 N63q
      refine Done.st (B := T63.setTop (mkF m 184 #[.val (.int x0), .val (.int x1), .val (.int x2), .val (.int x3), .val (.int x4), .val (.int x5), .val (.int i), .val (.int j), .val (.int la), .val (.int lb), .val (.int cc0), .val (.int cc1), .val (.int cc2), .val (.int dd0), .val (.int dd1), .val (.int dd2), .val (.int (0 : Int32)), .val (.ref s115), .val (.ref s140), .val (.ref b35), .unset, .unset] [(.int (own_is ((own_kd i w_HEADER w_IDENTIFIER w_INTEGER w_STRING w_ALIAS w_PUNCTUATION w_BODY w_END w_ABORT w_EOF) = (own_kd j w_HEADER w_IDENTIFIER w_INTEGER w_STRING w_ALIAS w_PUNCTUATION w_BODY w_END w_ABORT w_EOF)) (own_seq (own_cs la (cc0.toUInt32.toUInt16.toUInt32.toInt32) (cc1.toUInt32.toUInt16.toUInt32.toInt32) (cc2.toUInt32.toUInt16.toUInt32.toInt32)) (own_cs lb ((cc0 ^^^ dd0).toUInt32.toUInt16.toUInt32.toInt32) ((cc1 ^^^ dd1).toUInt32.toUInt16.toUInt32.toInt32) ((cc2 ^^^ dd2).toUInt32.toUInt16.toUInt32.toInt32)))))])) (fun _ k => st63.trans k) ?_
      refine Done.st (B := T63.setTop (mkF m 186 #[.val (.int x0), .val (.int x1), .val (.int x2), .val (.int x3), .val (.int x4), .val (.int x5), .val (.int i), .val (.int j), .val (.int la), .val (.int lb), .val (.int cc0), .val (.int cc1), .val (.int cc2), .val (.int dd0), .val (.int dd1), .val (.int dd2), .val (.int (0 : Int32)), .val (.ref s115), .val (.ref s140), .val (.ref b35), .val (.int (own_is ((own_kd i w_HEADER w_IDENTIFIER w_INTEGER w_STRING w_ALIAS w_PUNCTUATION w_BODY w_END w_ABORT w_EOF) = (own_kd j w_HEADER w_IDENTIFIER w_INTEGER w_STRING w_ALIAS w_PUNCTUATION w_BODY w_END w_ABORT w_EOF)) (own_seq (own_cs la (cc0.toUInt32.toUInt16.toUInt32.toInt32) (cc1.toUInt32.toUInt16.toUInt32.toInt32) (cc2.toUInt32.toUInt16.toUInt32.toInt32)) (own_cs lb ((cc0 ^^^ dd0).toUInt32.toUInt16.toUInt32.toInt32) ((cc1 ^^^ dd1).toUInt32.toUInt16.toUInt32.toInt32) ((cc2 ^^^ dd2).toUInt32.toUInt16.toUInt32.toInt32))))), .unset] [])) (fun _ k => XS.istore X63.here hx rfl (hb hby at_184) rfl (l' := #[.val (.int x0), .val (.int x1), .val (.int x2), .val (.int x3), .val (.int x4), .val (.int x5), .val (.int i), .val (.int j), .val (.int la), .val (.int lb), .val (.int cc0), .val (.int cc1), .val (.int cc2), .val (.int dd0), .val (.int dd1), .val (.int dd2), .val (.int (0 : Int32)), .val (.ref s115), .val (.ref s140), .val (.ref b35), .val (.int (own_is ((own_kd i w_HEADER w_IDENTIFIER w_INTEGER w_STRING w_ALIAS w_PUNCTUATION w_BODY w_END w_ABORT w_EOF) = (own_kd j w_HEADER w_IDENTIFIER w_INTEGER w_STRING w_ALIAS w_PUNCTUATION w_BODY w_END w_ABORT w_EOF)) (own_seq (own_cs la (cc0.toUInt32.toUInt16.toUInt32.toInt32) (cc1.toUInt32.toUInt16.toUInt32.toInt32) (cc2.toUInt32.toUInt16.toUInt32.toInt32)) (own_cs lb ((cc0 ^^^ dd0).toUInt32.toUInt16.toUInt32.toInt32) ((cc1 ^^^ dd1).toUInt32.toUInt16.toUInt32.toInt32) ((cc2 ^^^ dd2).toUInt32.toUInt16.toUInt32.toInt32))))), .unset]) rfl k) ?_
      have j245 : ∀ (want : Int32) (hwant : want = own_want i j (0 : Int32) la lb dd0 dd1 dd2), Done p e below (Prm0 s Z x0 x1 x2 x3 x4 x5 w_INTEGER w_IDENTIFIER w_PUNCTUATION w_END w_ALIAS w_BODY w_ABORT w_HEADER w_STRING w_EOF z h0 n0) (T63.setTop (mkF m 245 #[.val (.int x0), .val (.int x1), .val (.int x2), .val (.int x3), .val (.int x4), .val (.int x5), .val (.int i), .val (.int j), .val (.int la), .val (.int lb), .val (.int cc0), .val (.int cc1), .val (.int cc2), .val (.int dd0), .val (.int dd1), .val (.int dd2), .val (.int (0 : Int32)), .val (.ref s115), .val (.ref s140), .val (.ref b35), .val (.int (own_is ((own_kd i w_HEADER w_IDENTIFIER w_INTEGER w_STRING w_ALIAS w_PUNCTUATION w_BODY w_END w_ABORT w_EOF) = (own_kd j w_HEADER w_IDENTIFIER w_INTEGER w_STRING w_ALIAS w_PUNCTUATION w_BODY w_END w_ABORT w_EOF)) (own_seq (own_cs la (cc0.toUInt32.toUInt16.toUInt32.toInt32) (cc1.toUInt32.toUInt16.toUInt32.toInt32) (cc2.toUInt32.toUInt16.toUInt32.toInt32)) (own_cs lb ((cc0 ^^^ dd0).toUInt32.toUInt16.toUInt32.toInt32) ((cc1 ^^^ dd1).toUInt32.toUInt16.toUInt32.toInt32) ((cc2 ^^^ dd2).toUInt32.toUInt16.toUInt32.toInt32))))), .val (.int want)] [])) := by
        intro want hwant
        refine Done.st (B := T63.setTop (mkF m 247 #[.val (.int x0), .val (.int x1), .val (.int x2), .val (.int x3), .val (.int x4), .val (.int x5), .val (.int i), .val (.int j), .val (.int la), .val (.int lb), .val (.int cc0), .val (.int cc1), .val (.int cc2), .val (.int dd0), .val (.int dd1), .val (.int dd2), .val (.int (0 : Int32)), .val (.ref s115), .val (.ref s140), .val (.ref b35), .val (.int (own_is ((own_kd i w_HEADER w_IDENTIFIER w_INTEGER w_STRING w_ALIAS w_PUNCTUATION w_BODY w_END w_ABORT w_EOF) = (own_kd j w_HEADER w_IDENTIFIER w_INTEGER w_STRING w_ALIAS w_PUNCTUATION w_BODY w_END w_ABORT w_EOF)) (own_seq (own_cs la (cc0.toUInt32.toUInt16.toUInt32.toInt32) (cc1.toUInt32.toUInt16.toUInt32.toInt32) (cc2.toUInt32.toUInt16.toUInt32.toInt32)) (own_cs lb ((cc0 ^^^ dd0).toUInt32.toUInt16.toUInt32.toInt32) ((cc1 ^^^ dd1).toUInt32.toUInt16.toUInt32.toInt32) ((cc2 ^^^ dd2).toUInt32.toUInt16.toUInt32.toInt32))))), .val (.int want)] [(.int (own_is ((own_kd i w_HEADER w_IDENTIFIER w_INTEGER w_STRING w_ALIAS w_PUNCTUATION w_BODY w_END w_ABORT w_EOF) = (own_kd j w_HEADER w_IDENTIFIER w_INTEGER w_STRING w_ALIAS w_PUNCTUATION w_BODY w_END w_ABORT w_EOF)) (own_seq (own_cs la (cc0.toUInt32.toUInt16.toUInt32.toInt32) (cc1.toUInt32.toUInt16.toUInt32.toInt32) (cc2.toUInt32.toUInt16.toUInt32.toInt32)) (own_cs lb ((cc0 ^^^ dd0).toUInt32.toUInt16.toUInt32.toInt32) ((cc1 ^^^ dd1).toUInt32.toUInt16.toUInt32.toInt32) ((cc2 ^^^ dd2).toUInt32.toUInt16.toUInt32.toInt32)))))])) (fun _ k => XS.iload X63.here hx rfl (hb hby at_245) rfl k) ?_
        refine Done.st (B := T63.setTop (mkF m 249 #[.val (.int x0), .val (.int x1), .val (.int x2), .val (.int x3), .val (.int x4), .val (.int x5), .val (.int i), .val (.int j), .val (.int la), .val (.int lb), .val (.int cc0), .val (.int cc1), .val (.int cc2), .val (.int dd0), .val (.int dd1), .val (.int dd2), .val (.int (0 : Int32)), .val (.ref s115), .val (.ref s140), .val (.ref b35), .val (.int (own_is ((own_kd i w_HEADER w_IDENTIFIER w_INTEGER w_STRING w_ALIAS w_PUNCTUATION w_BODY w_END w_ABORT w_EOF) = (own_kd j w_HEADER w_IDENTIFIER w_INTEGER w_STRING w_ALIAS w_PUNCTUATION w_BODY w_END w_ABORT w_EOF)) (own_seq (own_cs la (cc0.toUInt32.toUInt16.toUInt32.toInt32) (cc1.toUInt32.toUInt16.toUInt32.toInt32) (cc2.toUInt32.toUInt16.toUInt32.toInt32)) (own_cs lb ((cc0 ^^^ dd0).toUInt32.toUInt16.toUInt32.toInt32) ((cc1 ^^^ dd1).toUInt32.toUInt16.toUInt32.toInt32) ((cc2 ^^^ dd2).toUInt32.toUInt16.toUInt32.toInt32))))), .val (.int want)] [(.int want), (.int (own_is ((own_kd i w_HEADER w_IDENTIFIER w_INTEGER w_STRING w_ALIAS w_PUNCTUATION w_BODY w_END w_ABORT w_EOF) = (own_kd j w_HEADER w_IDENTIFIER w_INTEGER w_STRING w_ALIAS w_PUNCTUATION w_BODY w_END w_ABORT w_EOF)) (own_seq (own_cs la (cc0.toUInt32.toUInt16.toUInt32.toInt32) (cc1.toUInt32.toUInt16.toUInt32.toInt32) (cc2.toUInt32.toUInt16.toUInt32.toInt32)) (own_cs lb ((cc0 ^^^ dd0).toUInt32.toUInt16.toUInt32.toInt32) ((cc1 ^^^ dd1).toUInt32.toUInt16.toUInt32.toInt32) ((cc2 ^^^ dd2).toUInt32.toUInt16.toUInt32.toInt32)))))])) (fun _ k => XS.iload X63.here hx rfl (hb hby at_247) rfl k) ?_
        refine Done.st (B := T63.setTop (mkF m 252 #[.val (.int x0), .val (.int x1), .val (.int x2), .val (.int x3), .val (.int x4), .val (.int x5), .val (.int i), .val (.int j), .val (.int la), .val (.int lb), .val (.int cc0), .val (.int cc1), .val (.int cc2), .val (.int dd0), .val (.int dd1), .val (.int dd2), .val (.int (0 : Int32)), .val (.ref s115), .val (.ref s140), .val (.ref b35), .val (.int (own_is ((own_kd i w_HEADER w_IDENTIFIER w_INTEGER w_STRING w_ALIAS w_PUNCTUATION w_BODY w_END w_ABORT w_EOF) = (own_kd j w_HEADER w_IDENTIFIER w_INTEGER w_STRING w_ALIAS w_PUNCTUATION w_BODY w_END w_ABORT w_EOF)) (own_seq (own_cs la (cc0.toUInt32.toUInt16.toUInt32.toInt32) (cc1.toUInt32.toUInt16.toUInt32.toInt32) (cc2.toUInt32.toUInt16.toUInt32.toInt32)) (own_cs lb ((cc0 ^^^ dd0).toUInt32.toUInt16.toUInt32.toInt32) ((cc1 ^^^ dd1).toUInt32.toUInt16.toUInt32.toInt32) ((cc2 ^^^ dd2).toUInt32.toUInt16.toUInt32.toInt32))))), .val (.int want)] [])) (fun _ k => XS.icmpNo X63.here hx rfl (hb hby at_249) rfl (teq (by rw [hwant]; exact own_law ⟨(fun q => Classical.byContradiction fun ne => Fld.ne (own_kdF F_HEADER_ordinal F_IDENTIFIER_ordinal F_INTEGER_ordinal F_STRING_ordinal F_ALIAS_ordinal F_PUNCTUATION_ordinal F_BODY_ordinal F_END_ordinal F_ABORT_ordinal F_EOF_ordinal h_i) (own_kdF F_HEADER_ordinal F_IDENTIFIER_ordinal F_INTEGER_ordinal F_STRING_ordinal F_ALIAS_ordinal F_PUNCTUATION_ordinal F_BODY_ordinal F_END_ordinal F_ABORT_ordinal F_EOF_ordinal h_j) (fun z => ne (Value.int.inj z)) q), fun q => by rw [q]⟩ h_la h_lb h_c0 h_c1 h_c2 h_d0 h_d1 h_d2)).2 k) ?_
        refine Done.st (B := T63.setTop (mkF m 253 #[.val (.int x0), .val (.int x1), .val (.int x2), .val (.int x3), .val (.int x4), .val (.int x5), .val (.int i), .val (.int j), .val (.int la), .val (.int lb), .val (.int cc0), .val (.int cc1), .val (.int cc2), .val (.int dd0), .val (.int dd1), .val (.int dd2), .val (.int (0 : Int32)), .val (.ref s115), .val (.ref s140), .val (.ref b35), .val (.int (own_is ((own_kd i w_HEADER w_IDENTIFIER w_INTEGER w_STRING w_ALIAS w_PUNCTUATION w_BODY w_END w_ABORT w_EOF) = (own_kd j w_HEADER w_IDENTIFIER w_INTEGER w_STRING w_ALIAS w_PUNCTUATION w_BODY w_END w_ABORT w_EOF)) (own_seq (own_cs la (cc0.toUInt32.toUInt16.toUInt32.toInt32) (cc1.toUInt32.toUInt16.toUInt32.toInt32) (cc2.toUInt32.toUInt16.toUInt32.toInt32)) (own_cs lb ((cc0 ^^^ dd0).toUInt32.toUInt16.toUInt32.toInt32) ((cc1 ^^^ dd1).toUInt32.toUInt16.toUInt32.toInt32) ((cc2 ^^^ dd2).toUInt32.toUInt16.toUInt32.toInt32))))), .val (.int want)] [(.int (1 : Int32))])) (fun _ k => XS.iconst X63.here hx rfl (hb hby at_252) k) ?_
        refine Done.st (B := T63.setTop (mkF m 257 #[.val (.int x0), .val (.int x1), .val (.int x2), .val (.int x3), .val (.int x4), .val (.int x5), .val (.int i), .val (.int j), .val (.int la), .val (.int lb), .val (.int cc0), .val (.int cc1), .val (.int cc2), .val (.int dd0), .val (.int dd1), .val (.int dd2), .val (.int (0 : Int32)), .val (.ref s115), .val (.ref s140), .val (.ref b35), .val (.int (own_is ((own_kd i w_HEADER w_IDENTIFIER w_INTEGER w_STRING w_ALIAS w_PUNCTUATION w_BODY w_END w_ABORT w_EOF) = (own_kd j w_HEADER w_IDENTIFIER w_INTEGER w_STRING w_ALIAS w_PUNCTUATION w_BODY w_END w_ABORT w_EOF)) (own_seq (own_cs la (cc0.toUInt32.toUInt16.toUInt32.toInt32) (cc1.toUInt32.toUInt16.toUInt32.toInt32) (cc2.toUInt32.toUInt16.toUInt32.toInt32)) (own_cs lb ((cc0 ^^^ dd0).toUInt32.toUInt16.toUInt32.toInt32) ((cc1 ^^^ dd1).toUInt32.toUInt16.toUInt32.toInt32) ((cc2 ^^^ dd2).toUInt32.toUInt16.toUInt32.toInt32))))), .val (.int want)] [(.int (1 : Int32))])) (fun _ k => XS.goto X63.here hx rfl (pc0 := 253) (pc' := 257) rfl (hb hby at_253) (by decide) (by decide) k) ?_
        obtain ⟨fs, hr, hrun, hended, hWW⟩ := X63.leaveW hS34 (by rw [e63]; exact hk48) (v := some (.int (1 : Int32))) (hlocks := hlk) (fun h => by rw [Bd.returns] at h; cases h)
        refine Done.fin (retN X63 hx (t := .boolean) Bd.returns (by simp) (hb hby at_257) hr) hrun hended ⟨_, _, rfl, ?_, ?_, hWW.1, hWW.2.1, hWW.2.2.1, hWW.2.2.2.mono (by decide) (by decide)⟩
        rotate_left
        · show CHr Z own_EL s.vm s.heap T63.vm T63.heap
          rw [hh, e63]
          exact R48.trans (CHv.at X63 hZ hEL C48)
        show Qrm0 Z x0 x1 x2 x3 x4 x5 w_INTEGER w_IDENTIFIER w_PUNCTUATION w_END w_ALIAS w_BODY w_ABORT w_HEADER w_STRING w_EOF z h0 n0 _ T63.heap _
        rw [e63]
        exact ⟨rfl, N63⟩
      refine Done.st (B := T63.setTop (mkF m 188 #[.val (.int x0), .val (.int x1), .val (.int x2), .val (.int x3), .val (.int x4), .val (.int x5), .val (.int i), .val (.int j), .val (.int la), .val (.int lb), .val (.int cc0), .val (.int cc1), .val (.int cc2), .val (.int dd0), .val (.int dd1), .val (.int dd2), .val (.int (0 : Int32)), .val (.ref s115), .val (.ref s140), .val (.ref b35), .val (.int (own_is ((own_kd i w_HEADER w_IDENTIFIER w_INTEGER w_STRING w_ALIAS w_PUNCTUATION w_BODY w_END w_ABORT w_EOF) = (own_kd j w_HEADER w_IDENTIFIER w_INTEGER w_STRING w_ALIAS w_PUNCTUATION w_BODY w_END w_ABORT w_EOF)) (own_seq (own_cs la (cc0.toUInt32.toUInt16.toUInt32.toInt32) (cc1.toUInt32.toUInt16.toUInt32.toInt32) (cc2.toUInt32.toUInt16.toUInt32.toInt32)) (own_cs lb ((cc0 ^^^ dd0).toUInt32.toUInt16.toUInt32.toInt32) ((cc1 ^^^ dd1).toUInt32.toUInt16.toUInt32.toInt32) ((cc2 ^^^ dd2).toUInt32.toUInt16.toUInt32.toInt32))))), .unset] [(.int i)])) (fun _ k => XS.iload X63.here hx rfl (hb hby at_186) rfl k) ?_
      refine Done.st (B := T63.setTop (mkF m 190 #[.val (.int x0), .val (.int x1), .val (.int x2), .val (.int x3), .val (.int x4), .val (.int x5), .val (.int i), .val (.int j), .val (.int la), .val (.int lb), .val (.int cc0), .val (.int cc1), .val (.int cc2), .val (.int dd0), .val (.int dd1), .val (.int dd2), .val (.int (0 : Int32)), .val (.ref s115), .val (.ref s140), .val (.ref b35), .val (.int (own_is ((own_kd i w_HEADER w_IDENTIFIER w_INTEGER w_STRING w_ALIAS w_PUNCTUATION w_BODY w_END w_ABORT w_EOF) = (own_kd j w_HEADER w_IDENTIFIER w_INTEGER w_STRING w_ALIAS w_PUNCTUATION w_BODY w_END w_ABORT w_EOF)) (own_seq (own_cs la (cc0.toUInt32.toUInt16.toUInt32.toInt32) (cc1.toUInt32.toUInt16.toUInt32.toInt32) (cc2.toUInt32.toUInt16.toUInt32.toInt32)) (own_cs lb ((cc0 ^^^ dd0).toUInt32.toUInt16.toUInt32.toInt32) ((cc1 ^^^ dd1).toUInt32.toUInt16.toUInt32.toInt32) ((cc2 ^^^ dd2).toUInt32.toUInt16.toUInt32.toInt32))))), .unset] [(.int j), (.int i)])) (fun _ k => XS.iload X63.here hx rfl (hb hby at_188) rfl k) ?_
      by_cases hc190 : i = j
      · refine Done.st (B := T63.setTop (mkF m 193 #[.val (.int x0), .val (.int x1), .val (.int x2), .val (.int x3), .val (.int x4), .val (.int x5), .val (.int i), .val (.int j), .val (.int la), .val (.int lb), .val (.int cc0), .val (.int cc1), .val (.int cc2), .val (.int dd0), .val (.int dd1), .val (.int dd2), .val (.int (0 : Int32)), .val (.ref s115), .val (.ref s140), .val (.ref b35), .val (.int (own_is ((own_kd i w_HEADER w_IDENTIFIER w_INTEGER w_STRING w_ALIAS w_PUNCTUATION w_BODY w_END w_ABORT w_EOF) = (own_kd j w_HEADER w_IDENTIFIER w_INTEGER w_STRING w_ALIAS w_PUNCTUATION w_BODY w_END w_ABORT w_EOF)) (own_seq (own_cs la (cc0.toUInt32.toUInt16.toUInt32.toInt32) (cc1.toUInt32.toUInt16.toUInt32.toInt32) (cc2.toUInt32.toUInt16.toUInt32.toInt32)) (own_cs lb ((cc0 ^^^ dd0).toUInt32.toUInt16.toUInt32.toInt32) ((cc1 ^^^ dd1).toUInt32.toUInt16.toUInt32.toInt32) ((cc2 ^^^ dd2).toUInt32.toUInt16.toUInt32.toInt32))))), .unset] [])) (fun _ k => XS.icmpNo X63.here hx rfl (hb hby at_190) rfl (teq hc190).2 k) ?_
        refine Done.st (B := T63.setTop (mkF m 195 #[.val (.int x0), .val (.int x1), .val (.int x2), .val (.int x3), .val (.int x4), .val (.int x5), .val (.int i), .val (.int j), .val (.int la), .val (.int lb), .val (.int cc0), .val (.int cc1), .val (.int cc2), .val (.int dd0), .val (.int dd1), .val (.int dd2), .val (.int (0 : Int32)), .val (.ref s115), .val (.ref s140), .val (.ref b35), .val (.int (own_is ((own_kd i w_HEADER w_IDENTIFIER w_INTEGER w_STRING w_ALIAS w_PUNCTUATION w_BODY w_END w_ABORT w_EOF) = (own_kd j w_HEADER w_IDENTIFIER w_INTEGER w_STRING w_ALIAS w_PUNCTUATION w_BODY w_END w_ABORT w_EOF)) (own_seq (own_cs la (cc0.toUInt32.toUInt16.toUInt32.toInt32) (cc1.toUInt32.toUInt16.toUInt32.toInt32) (cc2.toUInt32.toUInt16.toUInt32.toInt32)) (own_cs lb ((cc0 ^^^ dd0).toUInt32.toUInt16.toUInt32.toInt32) ((cc1 ^^^ dd1).toUInt32.toUInt16.toUInt32.toInt32) ((cc2 ^^^ dd2).toUInt32.toUInt16.toUInt32.toInt32))))), .unset] [(.int (0 : Int32))])) (fun _ k => XS.iload X63.here hx rfl (hb hby at_193) rfl k) ?_
        refine Done.st (B := T63.setTop (mkF m 198 #[.val (.int x0), .val (.int x1), .val (.int x2), .val (.int x3), .val (.int x4), .val (.int x5), .val (.int i), .val (.int j), .val (.int la), .val (.int lb), .val (.int cc0), .val (.int cc1), .val (.int cc2), .val (.int dd0), .val (.int dd1), .val (.int dd2), .val (.int (0 : Int32)), .val (.ref s115), .val (.ref s140), .val (.ref b35), .val (.int (own_is ((own_kd i w_HEADER w_IDENTIFIER w_INTEGER w_STRING w_ALIAS w_PUNCTUATION w_BODY w_END w_ABORT w_EOF) = (own_kd j w_HEADER w_IDENTIFIER w_INTEGER w_STRING w_ALIAS w_PUNCTUATION w_BODY w_END w_ABORT w_EOF)) (own_seq (own_cs la (cc0.toUInt32.toUInt16.toUInt32.toInt32) (cc1.toUInt32.toUInt16.toUInt32.toInt32) (cc2.toUInt32.toUInt16.toUInt32.toInt32)) (own_cs lb ((cc0 ^^^ dd0).toUInt32.toUInt16.toUInt32.toInt32) ((cc1 ^^^ dd1).toUInt32.toUInt16.toUInt32.toInt32) ((cc2 ^^^ dd2).toUInt32.toUInt16.toUInt32.toInt32))))), .unset] [])) (fun _ k => XS.ifNo X63.here hx rfl (hb hby at_195) rfl ((if0 _ _).trans (teq (rfl : (0 : Int32) = (0 : Int32))).2) k) ?_
        refine Done.st (B := T63.setTop (mkF m 200 #[.val (.int x0), .val (.int x1), .val (.int x2), .val (.int x3), .val (.int x4), .val (.int x5), .val (.int i), .val (.int j), .val (.int la), .val (.int lb), .val (.int cc0), .val (.int cc1), .val (.int cc2), .val (.int dd0), .val (.int dd1), .val (.int dd2), .val (.int (0 : Int32)), .val (.ref s115), .val (.ref s140), .val (.ref b35), .val (.int (own_is ((own_kd i w_HEADER w_IDENTIFIER w_INTEGER w_STRING w_ALIAS w_PUNCTUATION w_BODY w_END w_ABORT w_EOF) = (own_kd j w_HEADER w_IDENTIFIER w_INTEGER w_STRING w_ALIAS w_PUNCTUATION w_BODY w_END w_ABORT w_EOF)) (own_seq (own_cs la (cc0.toUInt32.toUInt16.toUInt32.toInt32) (cc1.toUInt32.toUInt16.toUInt32.toInt32) (cc2.toUInt32.toUInt16.toUInt32.toInt32)) (own_cs lb ((cc0 ^^^ dd0).toUInt32.toUInt16.toUInt32.toInt32) ((cc1 ^^^ dd1).toUInt32.toUInt16.toUInt32.toInt32) ((cc2 ^^^ dd2).toUInt32.toUInt16.toUInt32.toInt32))))), .unset] [(.int la)])) (fun _ k => XS.iload X63.here hx rfl (hb hby at_198) rfl k) ?_
        refine Done.st (B := T63.setTop (mkF m 202 #[.val (.int x0), .val (.int x1), .val (.int x2), .val (.int x3), .val (.int x4), .val (.int x5), .val (.int i), .val (.int j), .val (.int la), .val (.int lb), .val (.int cc0), .val (.int cc1), .val (.int cc2), .val (.int dd0), .val (.int dd1), .val (.int dd2), .val (.int (0 : Int32)), .val (.ref s115), .val (.ref s140), .val (.ref b35), .val (.int (own_is ((own_kd i w_HEADER w_IDENTIFIER w_INTEGER w_STRING w_ALIAS w_PUNCTUATION w_BODY w_END w_ABORT w_EOF) = (own_kd j w_HEADER w_IDENTIFIER w_INTEGER w_STRING w_ALIAS w_PUNCTUATION w_BODY w_END w_ABORT w_EOF)) (own_seq (own_cs la (cc0.toUInt32.toUInt16.toUInt32.toInt32) (cc1.toUInt32.toUInt16.toUInt32.toInt32) (cc2.toUInt32.toUInt16.toUInt32.toInt32)) (own_cs lb ((cc0 ^^^ dd0).toUInt32.toUInt16.toUInt32.toInt32) ((cc1 ^^^ dd1).toUInt32.toUInt16.toUInt32.toInt32) ((cc2 ^^^ dd2).toUInt32.toUInt16.toUInt32.toInt32))))), .unset] [(.int lb), (.int la)])) (fun _ k => XS.iload X63.here hx rfl (hb hby at_200) rfl k) ?_
        by_cases hc202 : la = lb
        · refine Done.st (B := T63.setTop (mkF m 205 #[.val (.int x0), .val (.int x1), .val (.int x2), .val (.int x3), .val (.int x4), .val (.int x5), .val (.int i), .val (.int j), .val (.int la), .val (.int lb), .val (.int cc0), .val (.int cc1), .val (.int cc2), .val (.int dd0), .val (.int dd1), .val (.int dd2), .val (.int (0 : Int32)), .val (.ref s115), .val (.ref s140), .val (.ref b35), .val (.int (own_is ((own_kd i w_HEADER w_IDENTIFIER w_INTEGER w_STRING w_ALIAS w_PUNCTUATION w_BODY w_END w_ABORT w_EOF) = (own_kd j w_HEADER w_IDENTIFIER w_INTEGER w_STRING w_ALIAS w_PUNCTUATION w_BODY w_END w_ABORT w_EOF)) (own_seq (own_cs la (cc0.toUInt32.toUInt16.toUInt32.toInt32) (cc1.toUInt32.toUInt16.toUInt32.toInt32) (cc2.toUInt32.toUInt16.toUInt32.toInt32)) (own_cs lb ((cc0 ^^^ dd0).toUInt32.toUInt16.toUInt32.toInt32) ((cc1 ^^^ dd1).toUInt32.toUInt16.toUInt32.toInt32) ((cc2 ^^^ dd2).toUInt32.toUInt16.toUInt32.toInt32))))), .unset] [])) (fun _ k => XS.icmpNo X63.here hx rfl (hb hby at_202) rfl (teq hc202).2 k) ?_
          refine Done.st (B := T63.setTop (mkF m 207 #[.val (.int x0), .val (.int x1), .val (.int x2), .val (.int x3), .val (.int x4), .val (.int x5), .val (.int i), .val (.int j), .val (.int la), .val (.int lb), .val (.int cc0), .val (.int cc1), .val (.int cc2), .val (.int dd0), .val (.int dd1), .val (.int dd2), .val (.int (0 : Int32)), .val (.ref s115), .val (.ref s140), .val (.ref b35), .val (.int (own_is ((own_kd i w_HEADER w_IDENTIFIER w_INTEGER w_STRING w_ALIAS w_PUNCTUATION w_BODY w_END w_ABORT w_EOF) = (own_kd j w_HEADER w_IDENTIFIER w_INTEGER w_STRING w_ALIAS w_PUNCTUATION w_BODY w_END w_ABORT w_EOF)) (own_seq (own_cs la (cc0.toUInt32.toUInt16.toUInt32.toInt32) (cc1.toUInt32.toUInt16.toUInt32.toInt32) (cc2.toUInt32.toUInt16.toUInt32.toInt32)) (own_cs lb ((cc0 ^^^ dd0).toUInt32.toUInt16.toUInt32.toInt32) ((cc1 ^^^ dd1).toUInt32.toUInt16.toUInt32.toInt32) ((cc2 ^^^ dd2).toUInt32.toUInt16.toUInt32.toInt32))))), .unset] [(.int la)])) (fun _ k => XS.iload X63.here hx rfl (hb hby at_205) rfl k) ?_
          refine Done.st (B := T63.setTop (mkF m 208 #[.val (.int x0), .val (.int x1), .val (.int x2), .val (.int x3), .val (.int x4), .val (.int x5), .val (.int i), .val (.int j), .val (.int la), .val (.int lb), .val (.int cc0), .val (.int cc1), .val (.int cc2), .val (.int dd0), .val (.int dd1), .val (.int dd2), .val (.int (0 : Int32)), .val (.ref s115), .val (.ref s140), .val (.ref b35), .val (.int (own_is ((own_kd i w_HEADER w_IDENTIFIER w_INTEGER w_STRING w_ALIAS w_PUNCTUATION w_BODY w_END w_ABORT w_EOF) = (own_kd j w_HEADER w_IDENTIFIER w_INTEGER w_STRING w_ALIAS w_PUNCTUATION w_BODY w_END w_ABORT w_EOF)) (own_seq (own_cs la (cc0.toUInt32.toUInt16.toUInt32.toInt32) (cc1.toUInt32.toUInt16.toUInt32.toInt32) (cc2.toUInt32.toUInt16.toUInt32.toInt32)) (own_cs lb ((cc0 ^^^ dd0).toUInt32.toUInt16.toUInt32.toInt32) ((cc1 ^^^ dd1).toUInt32.toUInt16.toUInt32.toInt32) ((cc2 ^^^ dd2).toUInt32.toUInt16.toUInt32.toInt32))))), .unset] [(.int (1 : Int32)), (.int la)])) (fun _ k => XS.iconst X63.here hx rfl (hb hby at_207) k) ?_
          by_cases hc208 : la < (1 : Int32)
          · refine Done.st (B := T63.setTop (mkF m 216 #[.val (.int x0), .val (.int x1), .val (.int x2), .val (.int x3), .val (.int x4), .val (.int x5), .val (.int i), .val (.int j), .val (.int la), .val (.int lb), .val (.int cc0), .val (.int cc1), .val (.int cc2), .val (.int dd0), .val (.int dd1), .val (.int dd2), .val (.int (0 : Int32)), .val (.ref s115), .val (.ref s140), .val (.ref b35), .val (.int (own_is ((own_kd i w_HEADER w_IDENTIFIER w_INTEGER w_STRING w_ALIAS w_PUNCTUATION w_BODY w_END w_ABORT w_EOF) = (own_kd j w_HEADER w_IDENTIFIER w_INTEGER w_STRING w_ALIAS w_PUNCTUATION w_BODY w_END w_ABORT w_EOF)) (own_seq (own_cs la (cc0.toUInt32.toUInt16.toUInt32.toInt32) (cc1.toUInt32.toUInt16.toUInt32.toInt32) (cc2.toUInt32.toUInt16.toUInt32.toInt32)) (own_cs lb ((cc0 ^^^ dd0).toUInt32.toUInt16.toUInt32.toInt32) ((cc1 ^^^ dd1).toUInt32.toUInt16.toUInt32.toInt32) ((cc2 ^^^ dd2).toUInt32.toUInt16.toUInt32.toInt32))))), .unset] [])) (fun _ k => XS.icmpYes X63.here hx rfl (pc0 := 208) (pc' := 216) rfl (hb hby at_208) rfl (tlt hc208).1 (by decide) (by decide) k) ?_
            refine Done.st (B := T63.setTop (mkF m 218 #[.val (.int x0), .val (.int x1), .val (.int x2), .val (.int x3), .val (.int x4), .val (.int x5), .val (.int i), .val (.int j), .val (.int la), .val (.int lb), .val (.int cc0), .val (.int cc1), .val (.int cc2), .val (.int dd0), .val (.int dd1), .val (.int dd2), .val (.int (0 : Int32)), .val (.ref s115), .val (.ref s140), .val (.ref b35), .val (.int (own_is ((own_kd i w_HEADER w_IDENTIFIER w_INTEGER w_STRING w_ALIAS w_PUNCTUATION w_BODY w_END w_ABORT w_EOF) = (own_kd j w_HEADER w_IDENTIFIER w_INTEGER w_STRING w_ALIAS w_PUNCTUATION w_BODY w_END w_ABORT w_EOF)) (own_seq (own_cs la (cc0.toUInt32.toUInt16.toUInt32.toInt32) (cc1.toUInt32.toUInt16.toUInt32.toInt32) (cc2.toUInt32.toUInt16.toUInt32.toInt32)) (own_cs lb ((cc0 ^^^ dd0).toUInt32.toUInt16.toUInt32.toInt32) ((cc1 ^^^ dd1).toUInt32.toUInt16.toUInt32.toInt32) ((cc2 ^^^ dd2).toUInt32.toUInt16.toUInt32.toInt32))))), .unset] [(.int la)])) (fun _ k => XS.iload X63.here hx rfl (hb hby at_216) rfl k) ?_
            refine Done.st (B := T63.setTop (mkF m 219 #[.val (.int x0), .val (.int x1), .val (.int x2), .val (.int x3), .val (.int x4), .val (.int x5), .val (.int i), .val (.int j), .val (.int la), .val (.int lb), .val (.int cc0), .val (.int cc1), .val (.int cc2), .val (.int dd0), .val (.int dd1), .val (.int dd2), .val (.int (0 : Int32)), .val (.ref s115), .val (.ref s140), .val (.ref b35), .val (.int (own_is ((own_kd i w_HEADER w_IDENTIFIER w_INTEGER w_STRING w_ALIAS w_PUNCTUATION w_BODY w_END w_ABORT w_EOF) = (own_kd j w_HEADER w_IDENTIFIER w_INTEGER w_STRING w_ALIAS w_PUNCTUATION w_BODY w_END w_ABORT w_EOF)) (own_seq (own_cs la (cc0.toUInt32.toUInt16.toUInt32.toInt32) (cc1.toUInt32.toUInt16.toUInt32.toInt32) (cc2.toUInt32.toUInt16.toUInt32.toInt32)) (own_cs lb ((cc0 ^^^ dd0).toUInt32.toUInt16.toUInt32.toInt32) ((cc1 ^^^ dd1).toUInt32.toUInt16.toUInt32.toInt32) ((cc2 ^^^ dd2).toUInt32.toUInt16.toUInt32.toInt32))))), .unset] [(.int (2 : Int32)), (.int la)])) (fun _ k => XS.iconst X63.here hx rfl (hb hby at_218) k) ?_
            by_cases hc219 : la < (2 : Int32)
            · refine Done.st (B := T63.setTop (mkF m 227 #[.val (.int x0), .val (.int x1), .val (.int x2), .val (.int x3), .val (.int x4), .val (.int x5), .val (.int i), .val (.int j), .val (.int la), .val (.int lb), .val (.int cc0), .val (.int cc1), .val (.int cc2), .val (.int dd0), .val (.int dd1), .val (.int dd2), .val (.int (0 : Int32)), .val (.ref s115), .val (.ref s140), .val (.ref b35), .val (.int (own_is ((own_kd i w_HEADER w_IDENTIFIER w_INTEGER w_STRING w_ALIAS w_PUNCTUATION w_BODY w_END w_ABORT w_EOF) = (own_kd j w_HEADER w_IDENTIFIER w_INTEGER w_STRING w_ALIAS w_PUNCTUATION w_BODY w_END w_ABORT w_EOF)) (own_seq (own_cs la (cc0.toUInt32.toUInt16.toUInt32.toInt32) (cc1.toUInt32.toUInt16.toUInt32.toInt32) (cc2.toUInt32.toUInt16.toUInt32.toInt32)) (own_cs lb ((cc0 ^^^ dd0).toUInt32.toUInt16.toUInt32.toInt32) ((cc1 ^^^ dd1).toUInt32.toUInt16.toUInt32.toInt32) ((cc2 ^^^ dd2).toUInt32.toUInt16.toUInt32.toInt32))))), .unset] [])) (fun _ k => XS.icmpYes X63.here hx rfl (pc0 := 219) (pc' := 227) rfl (hb hby at_219) rfl (tlt hc219).1 (by decide) (by decide) k) ?_
              refine Done.st (B := T63.setTop (mkF m 229 #[.val (.int x0), .val (.int x1), .val (.int x2), .val (.int x3), .val (.int x4), .val (.int x5), .val (.int i), .val (.int j), .val (.int la), .val (.int lb), .val (.int cc0), .val (.int cc1), .val (.int cc2), .val (.int dd0), .val (.int dd1), .val (.int dd2), .val (.int (0 : Int32)), .val (.ref s115), .val (.ref s140), .val (.ref b35), .val (.int (own_is ((own_kd i w_HEADER w_IDENTIFIER w_INTEGER w_STRING w_ALIAS w_PUNCTUATION w_BODY w_END w_ABORT w_EOF) = (own_kd j w_HEADER w_IDENTIFIER w_INTEGER w_STRING w_ALIAS w_PUNCTUATION w_BODY w_END w_ABORT w_EOF)) (own_seq (own_cs la (cc0.toUInt32.toUInt16.toUInt32.toInt32) (cc1.toUInt32.toUInt16.toUInt32.toInt32) (cc2.toUInt32.toUInt16.toUInt32.toInt32)) (own_cs lb ((cc0 ^^^ dd0).toUInt32.toUInt16.toUInt32.toInt32) ((cc1 ^^^ dd1).toUInt32.toUInt16.toUInt32.toInt32) ((cc2 ^^^ dd2).toUInt32.toUInt16.toUInt32.toInt32))))), .unset] [(.int la)])) (fun _ k => XS.iload X63.here hx rfl (hb hby at_227) rfl k) ?_
              refine Done.st (B := T63.setTop (mkF m 230 #[.val (.int x0), .val (.int x1), .val (.int x2), .val (.int x3), .val (.int x4), .val (.int x5), .val (.int i), .val (.int j), .val (.int la), .val (.int lb), .val (.int cc0), .val (.int cc1), .val (.int cc2), .val (.int dd0), .val (.int dd1), .val (.int dd2), .val (.int (0 : Int32)), .val (.ref s115), .val (.ref s140), .val (.ref b35), .val (.int (own_is ((own_kd i w_HEADER w_IDENTIFIER w_INTEGER w_STRING w_ALIAS w_PUNCTUATION w_BODY w_END w_ABORT w_EOF) = (own_kd j w_HEADER w_IDENTIFIER w_INTEGER w_STRING w_ALIAS w_PUNCTUATION w_BODY w_END w_ABORT w_EOF)) (own_seq (own_cs la (cc0.toUInt32.toUInt16.toUInt32.toInt32) (cc1.toUInt32.toUInt16.toUInt32.toInt32) (cc2.toUInt32.toUInt16.toUInt32.toInt32)) (own_cs lb ((cc0 ^^^ dd0).toUInt32.toUInt16.toUInt32.toInt32) ((cc1 ^^^ dd1).toUInt32.toUInt16.toUInt32.toInt32) ((cc2 ^^^ dd2).toUInt32.toUInt16.toUInt32.toInt32))))), .unset] [(.int (3 : Int32)), (.int la)])) (fun _ k => XS.iconst X63.here hx rfl (hb hby at_229) k) ?_
              by_cases hc230 : la < (3 : Int32)
              · refine Done.st (B := T63.setTop (mkF m 238 #[.val (.int x0), .val (.int x1), .val (.int x2), .val (.int x3), .val (.int x4), .val (.int x5), .val (.int i), .val (.int j), .val (.int la), .val (.int lb), .val (.int cc0), .val (.int cc1), .val (.int cc2), .val (.int dd0), .val (.int dd1), .val (.int dd2), .val (.int (0 : Int32)), .val (.ref s115), .val (.ref s140), .val (.ref b35), .val (.int (own_is ((own_kd i w_HEADER w_IDENTIFIER w_INTEGER w_STRING w_ALIAS w_PUNCTUATION w_BODY w_END w_ABORT w_EOF) = (own_kd j w_HEADER w_IDENTIFIER w_INTEGER w_STRING w_ALIAS w_PUNCTUATION w_BODY w_END w_ABORT w_EOF)) (own_seq (own_cs la (cc0.toUInt32.toUInt16.toUInt32.toInt32) (cc1.toUInt32.toUInt16.toUInt32.toInt32) (cc2.toUInt32.toUInt16.toUInt32.toInt32)) (own_cs lb ((cc0 ^^^ dd0).toUInt32.toUInt16.toUInt32.toInt32) ((cc1 ^^^ dd1).toUInt32.toUInt16.toUInt32.toInt32) ((cc2 ^^^ dd2).toUInt32.toUInt16.toUInt32.toInt32))))), .unset] [])) (fun _ k => XS.icmpYes X63.here hx rfl (pc0 := 230) (pc' := 238) rfl (hb hby at_230) rfl (tlt hc230).1 (by decide) (by decide) k) ?_
                refine Done.st (B := T63.setTop (mkF m 239 #[.val (.int x0), .val (.int x1), .val (.int x2), .val (.int x3), .val (.int x4), .val (.int x5), .val (.int i), .val (.int j), .val (.int la), .val (.int lb), .val (.int cc0), .val (.int cc1), .val (.int cc2), .val (.int dd0), .val (.int dd1), .val (.int dd2), .val (.int (0 : Int32)), .val (.ref s115), .val (.ref s140), .val (.ref b35), .val (.int (own_is ((own_kd i w_HEADER w_IDENTIFIER w_INTEGER w_STRING w_ALIAS w_PUNCTUATION w_BODY w_END w_ABORT w_EOF) = (own_kd j w_HEADER w_IDENTIFIER w_INTEGER w_STRING w_ALIAS w_PUNCTUATION w_BODY w_END w_ABORT w_EOF)) (own_seq (own_cs la (cc0.toUInt32.toUInt16.toUInt32.toInt32) (cc1.toUInt32.toUInt16.toUInt32.toInt32) (cc2.toUInt32.toUInt16.toUInt32.toInt32)) (own_cs lb ((cc0 ^^^ dd0).toUInt32.toUInt16.toUInt32.toInt32) ((cc1 ^^^ dd1).toUInt32.toUInt16.toUInt32.toInt32) ((cc2 ^^^ dd2).toUInt32.toUInt16.toUInt32.toInt32))))), .unset] [(.int (1 : Int32))])) (fun _ k => XS.iconst X63.here hx rfl (hb hby at_238) k) ?_
                refine Done.st (B := T63.setTop (mkF m 243 #[.val (.int x0), .val (.int x1), .val (.int x2), .val (.int x3), .val (.int x4), .val (.int x5), .val (.int i), .val (.int j), .val (.int la), .val (.int lb), .val (.int cc0), .val (.int cc1), .val (.int cc2), .val (.int dd0), .val (.int dd1), .val (.int dd2), .val (.int (0 : Int32)), .val (.ref s115), .val (.ref s140), .val (.ref b35), .val (.int (own_is ((own_kd i w_HEADER w_IDENTIFIER w_INTEGER w_STRING w_ALIAS w_PUNCTUATION w_BODY w_END w_ABORT w_EOF) = (own_kd j w_HEADER w_IDENTIFIER w_INTEGER w_STRING w_ALIAS w_PUNCTUATION w_BODY w_END w_ABORT w_EOF)) (own_seq (own_cs la (cc0.toUInt32.toUInt16.toUInt32.toInt32) (cc1.toUInt32.toUInt16.toUInt32.toInt32) (cc2.toUInt32.toUInt16.toUInt32.toInt32)) (own_cs lb ((cc0 ^^^ dd0).toUInt32.toUInt16.toUInt32.toInt32) ((cc1 ^^^ dd1).toUInt32.toUInt16.toUInt32.toInt32) ((cc2 ^^^ dd2).toUInt32.toUInt16.toUInt32.toInt32))))), .unset] [(.int (1 : Int32))])) (fun _ k => XS.goto X63.here hx rfl (pc0 := 239) (pc' := 243) rfl (hb hby at_239) (by decide) (by decide) k) ?_
                refine Done.st (B := T63.setTop (mkF m 245 #[.val (.int x0), .val (.int x1), .val (.int x2), .val (.int x3), .val (.int x4), .val (.int x5), .val (.int i), .val (.int j), .val (.int la), .val (.int lb), .val (.int cc0), .val (.int cc1), .val (.int cc2), .val (.int dd0), .val (.int dd1), .val (.int dd2), .val (.int (0 : Int32)), .val (.ref s115), .val (.ref s140), .val (.ref b35), .val (.int (own_is ((own_kd i w_HEADER w_IDENTIFIER w_INTEGER w_STRING w_ALIAS w_PUNCTUATION w_BODY w_END w_ABORT w_EOF) = (own_kd j w_HEADER w_IDENTIFIER w_INTEGER w_STRING w_ALIAS w_PUNCTUATION w_BODY w_END w_ABORT w_EOF)) (own_seq (own_cs la (cc0.toUInt32.toUInt16.toUInt32.toInt32) (cc1.toUInt32.toUInt16.toUInt32.toInt32) (cc2.toUInt32.toUInt16.toUInt32.toInt32)) (own_cs lb ((cc0 ^^^ dd0).toUInt32.toUInt16.toUInt32.toInt32) ((cc1 ^^^ dd1).toUInt32.toUInt16.toUInt32.toInt32) ((cc2 ^^^ dd2).toUInt32.toUInt16.toUInt32.toInt32))))), .val (.int (1 : Int32))] [])) (fun _ k => XS.istore X63.here hx rfl (hb hby at_243) rfl (l' := #[.val (.int x0), .val (.int x1), .val (.int x2), .val (.int x3), .val (.int x4), .val (.int x5), .val (.int i), .val (.int j), .val (.int la), .val (.int lb), .val (.int cc0), .val (.int cc1), .val (.int cc2), .val (.int dd0), .val (.int dd1), .val (.int dd2), .val (.int (0 : Int32)), .val (.ref s115), .val (.ref s140), .val (.ref b35), .val (.int (own_is ((own_kd i w_HEADER w_IDENTIFIER w_INTEGER w_STRING w_ALIAS w_PUNCTUATION w_BODY w_END w_ABORT w_EOF) = (own_kd j w_HEADER w_IDENTIFIER w_INTEGER w_STRING w_ALIAS w_PUNCTUATION w_BODY w_END w_ABORT w_EOF)) (own_seq (own_cs la (cc0.toUInt32.toUInt16.toUInt32.toInt32) (cc1.toUInt32.toUInt16.toUInt32.toInt32) (cc2.toUInt32.toUInt16.toUInt32.toInt32)) (own_cs lb ((cc0 ^^^ dd0).toUInt32.toUInt16.toUInt32.toInt32) ((cc1 ^^^ dd1).toUInt32.toUInt16.toUInt32.toInt32) ((cc2 ^^^ dd2).toUInt32.toUInt16.toUInt32.toInt32))))), .val (.int (1 : Int32))]) rfl k) ?_
                exact j245 (1 : Int32) (by unfold own_want; exact (if_pos ⟨hc190, rfl, hc202, Or.inl hc208, Or.inl hc219, Or.inl hc230⟩).symm)
              · refine Done.st (B := T63.setTop (mkF m 233 #[.val (.int x0), .val (.int x1), .val (.int x2), .val (.int x3), .val (.int x4), .val (.int x5), .val (.int i), .val (.int j), .val (.int la), .val (.int lb), .val (.int cc0), .val (.int cc1), .val (.int cc2), .val (.int dd0), .val (.int dd1), .val (.int dd2), .val (.int (0 : Int32)), .val (.ref s115), .val (.ref s140), .val (.ref b35), .val (.int (own_is ((own_kd i w_HEADER w_IDENTIFIER w_INTEGER w_STRING w_ALIAS w_PUNCTUATION w_BODY w_END w_ABORT w_EOF) = (own_kd j w_HEADER w_IDENTIFIER w_INTEGER w_STRING w_ALIAS w_PUNCTUATION w_BODY w_END w_ABORT w_EOF)) (own_seq (own_cs la (cc0.toUInt32.toUInt16.toUInt32.toInt32) (cc1.toUInt32.toUInt16.toUInt32.toInt32) (cc2.toUInt32.toUInt16.toUInt32.toInt32)) (own_cs lb ((cc0 ^^^ dd0).toUInt32.toUInt16.toUInt32.toInt32) ((cc1 ^^^ dd1).toUInt32.toUInt16.toUInt32.toInt32) ((cc2 ^^^ dd2).toUInt32.toUInt16.toUInt32.toInt32))))), .unset] [])) (fun _ k => XS.icmpNo X63.here hx rfl (hb hby at_230) rfl (flt hc230).1 k) ?_
                refine Done.st (B := T63.setTop (mkF m 235 #[.val (.int x0), .val (.int x1), .val (.int x2), .val (.int x3), .val (.int x4), .val (.int x5), .val (.int i), .val (.int j), .val (.int la), .val (.int lb), .val (.int cc0), .val (.int cc1), .val (.int cc2), .val (.int dd0), .val (.int dd1), .val (.int dd2), .val (.int (0 : Int32)), .val (.ref s115), .val (.ref s140), .val (.ref b35), .val (.int (own_is ((own_kd i w_HEADER w_IDENTIFIER w_INTEGER w_STRING w_ALIAS w_PUNCTUATION w_BODY w_END w_ABORT w_EOF) = (own_kd j w_HEADER w_IDENTIFIER w_INTEGER w_STRING w_ALIAS w_PUNCTUATION w_BODY w_END w_ABORT w_EOF)) (own_seq (own_cs la (cc0.toUInt32.toUInt16.toUInt32.toInt32) (cc1.toUInt32.toUInt16.toUInt32.toInt32) (cc2.toUInt32.toUInt16.toUInt32.toInt32)) (own_cs lb ((cc0 ^^^ dd0).toUInt32.toUInt16.toUInt32.toInt32) ((cc1 ^^^ dd1).toUInt32.toUInt16.toUInt32.toInt32) ((cc2 ^^^ dd2).toUInt32.toUInt16.toUInt32.toInt32))))), .unset] [(.int dd2)])) (fun _ k => XS.iload X63.here hx rfl (hb hby at_233) rfl k) ?_
                by_cases hc235 : dd2 = (0 : Int32)
                · refine Done.st (B := T63.setTop (mkF m 238 #[.val (.int x0), .val (.int x1), .val (.int x2), .val (.int x3), .val (.int x4), .val (.int x5), .val (.int i), .val (.int j), .val (.int la), .val (.int lb), .val (.int cc0), .val (.int cc1), .val (.int cc2), .val (.int dd0), .val (.int dd1), .val (.int dd2), .val (.int (0 : Int32)), .val (.ref s115), .val (.ref s140), .val (.ref b35), .val (.int (own_is ((own_kd i w_HEADER w_IDENTIFIER w_INTEGER w_STRING w_ALIAS w_PUNCTUATION w_BODY w_END w_ABORT w_EOF) = (own_kd j w_HEADER w_IDENTIFIER w_INTEGER w_STRING w_ALIAS w_PUNCTUATION w_BODY w_END w_ABORT w_EOF)) (own_seq (own_cs la (cc0.toUInt32.toUInt16.toUInt32.toInt32) (cc1.toUInt32.toUInt16.toUInt32.toInt32) (cc2.toUInt32.toUInt16.toUInt32.toInt32)) (own_cs lb ((cc0 ^^^ dd0).toUInt32.toUInt16.toUInt32.toInt32) ((cc1 ^^^ dd1).toUInt32.toUInt16.toUInt32.toInt32) ((cc2 ^^^ dd2).toUInt32.toUInt16.toUInt32.toInt32))))), .unset] [])) (fun _ k => XS.ifNo X63.here hx rfl (hb hby at_235) rfl ((if0 _ _).trans (teq hc235).2) k) ?_
                  refine Done.st (B := T63.setTop (mkF m 239 #[.val (.int x0), .val (.int x1), .val (.int x2), .val (.int x3), .val (.int x4), .val (.int x5), .val (.int i), .val (.int j), .val (.int la), .val (.int lb), .val (.int cc0), .val (.int cc1), .val (.int cc2), .val (.int dd0), .val (.int dd1), .val (.int dd2), .val (.int (0 : Int32)), .val (.ref s115), .val (.ref s140), .val (.ref b35), .val (.int (own_is ((own_kd i w_HEADER w_IDENTIFIER w_INTEGER w_STRING w_ALIAS w_PUNCTUATION w_BODY w_END w_ABORT w_EOF) = (own_kd j w_HEADER w_IDENTIFIER w_INTEGER w_STRING w_ALIAS w_PUNCTUATION w_BODY w_END w_ABORT w_EOF)) (own_seq (own_cs la (cc0.toUInt32.toUInt16.toUInt32.toInt32) (cc1.toUInt32.toUInt16.toUInt32.toInt32) (cc2.toUInt32.toUInt16.toUInt32.toInt32)) (own_cs lb ((cc0 ^^^ dd0).toUInt32.toUInt16.toUInt32.toInt32) ((cc1 ^^^ dd1).toUInt32.toUInt16.toUInt32.toInt32) ((cc2 ^^^ dd2).toUInt32.toUInt16.toUInt32.toInt32))))), .unset] [(.int (1 : Int32))])) (fun _ k => XS.iconst X63.here hx rfl (hb hby at_238) k) ?_
                  refine Done.st (B := T63.setTop (mkF m 243 #[.val (.int x0), .val (.int x1), .val (.int x2), .val (.int x3), .val (.int x4), .val (.int x5), .val (.int i), .val (.int j), .val (.int la), .val (.int lb), .val (.int cc0), .val (.int cc1), .val (.int cc2), .val (.int dd0), .val (.int dd1), .val (.int dd2), .val (.int (0 : Int32)), .val (.ref s115), .val (.ref s140), .val (.ref b35), .val (.int (own_is ((own_kd i w_HEADER w_IDENTIFIER w_INTEGER w_STRING w_ALIAS w_PUNCTUATION w_BODY w_END w_ABORT w_EOF) = (own_kd j w_HEADER w_IDENTIFIER w_INTEGER w_STRING w_ALIAS w_PUNCTUATION w_BODY w_END w_ABORT w_EOF)) (own_seq (own_cs la (cc0.toUInt32.toUInt16.toUInt32.toInt32) (cc1.toUInt32.toUInt16.toUInt32.toInt32) (cc2.toUInt32.toUInt16.toUInt32.toInt32)) (own_cs lb ((cc0 ^^^ dd0).toUInt32.toUInt16.toUInt32.toInt32) ((cc1 ^^^ dd1).toUInt32.toUInt16.toUInt32.toInt32) ((cc2 ^^^ dd2).toUInt32.toUInt16.toUInt32.toInt32))))), .unset] [(.int (1 : Int32))])) (fun _ k => XS.goto X63.here hx rfl (pc0 := 239) (pc' := 243) rfl (hb hby at_239) (by decide) (by decide) k) ?_
                  refine Done.st (B := T63.setTop (mkF m 245 #[.val (.int x0), .val (.int x1), .val (.int x2), .val (.int x3), .val (.int x4), .val (.int x5), .val (.int i), .val (.int j), .val (.int la), .val (.int lb), .val (.int cc0), .val (.int cc1), .val (.int cc2), .val (.int dd0), .val (.int dd1), .val (.int dd2), .val (.int (0 : Int32)), .val (.ref s115), .val (.ref s140), .val (.ref b35), .val (.int (own_is ((own_kd i w_HEADER w_IDENTIFIER w_INTEGER w_STRING w_ALIAS w_PUNCTUATION w_BODY w_END w_ABORT w_EOF) = (own_kd j w_HEADER w_IDENTIFIER w_INTEGER w_STRING w_ALIAS w_PUNCTUATION w_BODY w_END w_ABORT w_EOF)) (own_seq (own_cs la (cc0.toUInt32.toUInt16.toUInt32.toInt32) (cc1.toUInt32.toUInt16.toUInt32.toInt32) (cc2.toUInt32.toUInt16.toUInt32.toInt32)) (own_cs lb ((cc0 ^^^ dd0).toUInt32.toUInt16.toUInt32.toInt32) ((cc1 ^^^ dd1).toUInt32.toUInt16.toUInt32.toInt32) ((cc2 ^^^ dd2).toUInt32.toUInt16.toUInt32.toInt32))))), .val (.int (1 : Int32))] [])) (fun _ k => XS.istore X63.here hx rfl (hb hby at_243) rfl (l' := #[.val (.int x0), .val (.int x1), .val (.int x2), .val (.int x3), .val (.int x4), .val (.int x5), .val (.int i), .val (.int j), .val (.int la), .val (.int lb), .val (.int cc0), .val (.int cc1), .val (.int cc2), .val (.int dd0), .val (.int dd1), .val (.int dd2), .val (.int (0 : Int32)), .val (.ref s115), .val (.ref s140), .val (.ref b35), .val (.int (own_is ((own_kd i w_HEADER w_IDENTIFIER w_INTEGER w_STRING w_ALIAS w_PUNCTUATION w_BODY w_END w_ABORT w_EOF) = (own_kd j w_HEADER w_IDENTIFIER w_INTEGER w_STRING w_ALIAS w_PUNCTUATION w_BODY w_END w_ABORT w_EOF)) (own_seq (own_cs la (cc0.toUInt32.toUInt16.toUInt32.toInt32) (cc1.toUInt32.toUInt16.toUInt32.toInt32) (cc2.toUInt32.toUInt16.toUInt32.toInt32)) (own_cs lb ((cc0 ^^^ dd0).toUInt32.toUInt16.toUInt32.toInt32) ((cc1 ^^^ dd1).toUInt32.toUInt16.toUInt32.toInt32) ((cc2 ^^^ dd2).toUInt32.toUInt16.toUInt32.toInt32))))), .val (.int (1 : Int32))]) rfl k) ?_
                  exact j245 (1 : Int32) (by unfold own_want; exact (if_pos ⟨hc190, rfl, hc202, Or.inl hc208, Or.inl hc219, Or.inr hc235⟩).symm)
                · refine Done.st (B := T63.setTop (mkF m 242 #[.val (.int x0), .val (.int x1), .val (.int x2), .val (.int x3), .val (.int x4), .val (.int x5), .val (.int i), .val (.int j), .val (.int la), .val (.int lb), .val (.int cc0), .val (.int cc1), .val (.int cc2), .val (.int dd0), .val (.int dd1), .val (.int dd2), .val (.int (0 : Int32)), .val (.ref s115), .val (.ref s140), .val (.ref b35), .val (.int (own_is ((own_kd i w_HEADER w_IDENTIFIER w_INTEGER w_STRING w_ALIAS w_PUNCTUATION w_BODY w_END w_ABORT w_EOF) = (own_kd j w_HEADER w_IDENTIFIER w_INTEGER w_STRING w_ALIAS w_PUNCTUATION w_BODY w_END w_ABORT w_EOF)) (own_seq (own_cs la (cc0.toUInt32.toUInt16.toUInt32.toInt32) (cc1.toUInt32.toUInt16.toUInt32.toInt32) (cc2.toUInt32.toUInt16.toUInt32.toInt32)) (own_cs lb ((cc0 ^^^ dd0).toUInt32.toUInt16.toUInt32.toInt32) ((cc1 ^^^ dd1).toUInt32.toUInt16.toUInt32.toInt32) ((cc2 ^^^ dd2).toUInt32.toUInt16.toUInt32.toInt32))))), .unset] [])) (fun _ k => XS.ifYes X63.here hx rfl (pc0 := 235) (pc' := 242) rfl (hb hby at_235) rfl ((if0 _ _).trans (feq hc235).2) (by decide) (by decide) k) ?_
                  refine Done.st (B := T63.setTop (mkF m 243 #[.val (.int x0), .val (.int x1), .val (.int x2), .val (.int x3), .val (.int x4), .val (.int x5), .val (.int i), .val (.int j), .val (.int la), .val (.int lb), .val (.int cc0), .val (.int cc1), .val (.int cc2), .val (.int dd0), .val (.int dd1), .val (.int dd2), .val (.int (0 : Int32)), .val (.ref s115), .val (.ref s140), .val (.ref b35), .val (.int (own_is ((own_kd i w_HEADER w_IDENTIFIER w_INTEGER w_STRING w_ALIAS w_PUNCTUATION w_BODY w_END w_ABORT w_EOF) = (own_kd j w_HEADER w_IDENTIFIER w_INTEGER w_STRING w_ALIAS w_PUNCTUATION w_BODY w_END w_ABORT w_EOF)) (own_seq (own_cs la (cc0.toUInt32.toUInt16.toUInt32.toInt32) (cc1.toUInt32.toUInt16.toUInt32.toInt32) (cc2.toUInt32.toUInt16.toUInt32.toInt32)) (own_cs lb ((cc0 ^^^ dd0).toUInt32.toUInt16.toUInt32.toInt32) ((cc1 ^^^ dd1).toUInt32.toUInt16.toUInt32.toInt32) ((cc2 ^^^ dd2).toUInt32.toUInt16.toUInt32.toInt32))))), .unset] [(.int (0 : Int32))])) (fun _ k => XS.iconst X63.here hx rfl (hb hby at_242) k) ?_
                  refine Done.st (B := T63.setTop (mkF m 245 #[.val (.int x0), .val (.int x1), .val (.int x2), .val (.int x3), .val (.int x4), .val (.int x5), .val (.int i), .val (.int j), .val (.int la), .val (.int lb), .val (.int cc0), .val (.int cc1), .val (.int cc2), .val (.int dd0), .val (.int dd1), .val (.int dd2), .val (.int (0 : Int32)), .val (.ref s115), .val (.ref s140), .val (.ref b35), .val (.int (own_is ((own_kd i w_HEADER w_IDENTIFIER w_INTEGER w_STRING w_ALIAS w_PUNCTUATION w_BODY w_END w_ABORT w_EOF) = (own_kd j w_HEADER w_IDENTIFIER w_INTEGER w_STRING w_ALIAS w_PUNCTUATION w_BODY w_END w_ABORT w_EOF)) (own_seq (own_cs la (cc0.toUInt32.toUInt16.toUInt32.toInt32) (cc1.toUInt32.toUInt16.toUInt32.toInt32) (cc2.toUInt32.toUInt16.toUInt32.toInt32)) (own_cs lb ((cc0 ^^^ dd0).toUInt32.toUInt16.toUInt32.toInt32) ((cc1 ^^^ dd1).toUInt32.toUInt16.toUInt32.toInt32) ((cc2 ^^^ dd2).toUInt32.toUInt16.toUInt32.toInt32))))), .val (.int (0 : Int32))] [])) (fun _ k => XS.istore X63.here hx rfl (hb hby at_243) rfl (l' := #[.val (.int x0), .val (.int x1), .val (.int x2), .val (.int x3), .val (.int x4), .val (.int x5), .val (.int i), .val (.int j), .val (.int la), .val (.int lb), .val (.int cc0), .val (.int cc1), .val (.int cc2), .val (.int dd0), .val (.int dd1), .val (.int dd2), .val (.int (0 : Int32)), .val (.ref s115), .val (.ref s140), .val (.ref b35), .val (.int (own_is ((own_kd i w_HEADER w_IDENTIFIER w_INTEGER w_STRING w_ALIAS w_PUNCTUATION w_BODY w_END w_ABORT w_EOF) = (own_kd j w_HEADER w_IDENTIFIER w_INTEGER w_STRING w_ALIAS w_PUNCTUATION w_BODY w_END w_ABORT w_EOF)) (own_seq (own_cs la (cc0.toUInt32.toUInt16.toUInt32.toInt32) (cc1.toUInt32.toUInt16.toUInt32.toInt32) (cc2.toUInt32.toUInt16.toUInt32.toInt32)) (own_cs lb ((cc0 ^^^ dd0).toUInt32.toUInt16.toUInt32.toInt32) ((cc1 ^^^ dd1).toUInt32.toUInt16.toUInt32.toInt32) ((cc2 ^^^ dd2).toUInt32.toUInt16.toUInt32.toInt32))))), .val (.int (0 : Int32))]) rfl k) ?_
                  exact j245 (0 : Int32) (by unfold own_want; exact (if_neg (fun z => z.2.2.2.2.2.elim hc230 hc235)).symm)
            · refine Done.st (B := T63.setTop (mkF m 222 #[.val (.int x0), .val (.int x1), .val (.int x2), .val (.int x3), .val (.int x4), .val (.int x5), .val (.int i), .val (.int j), .val (.int la), .val (.int lb), .val (.int cc0), .val (.int cc1), .val (.int cc2), .val (.int dd0), .val (.int dd1), .val (.int dd2), .val (.int (0 : Int32)), .val (.ref s115), .val (.ref s140), .val (.ref b35), .val (.int (own_is ((own_kd i w_HEADER w_IDENTIFIER w_INTEGER w_STRING w_ALIAS w_PUNCTUATION w_BODY w_END w_ABORT w_EOF) = (own_kd j w_HEADER w_IDENTIFIER w_INTEGER w_STRING w_ALIAS w_PUNCTUATION w_BODY w_END w_ABORT w_EOF)) (own_seq (own_cs la (cc0.toUInt32.toUInt16.toUInt32.toInt32) (cc1.toUInt32.toUInt16.toUInt32.toInt32) (cc2.toUInt32.toUInt16.toUInt32.toInt32)) (own_cs lb ((cc0 ^^^ dd0).toUInt32.toUInt16.toUInt32.toInt32) ((cc1 ^^^ dd1).toUInt32.toUInt16.toUInt32.toInt32) ((cc2 ^^^ dd2).toUInt32.toUInt16.toUInt32.toInt32))))), .unset] [])) (fun _ k => XS.icmpNo X63.here hx rfl (hb hby at_219) rfl (flt hc219).1 k) ?_
              refine Done.st (B := T63.setTop (mkF m 224 #[.val (.int x0), .val (.int x1), .val (.int x2), .val (.int x3), .val (.int x4), .val (.int x5), .val (.int i), .val (.int j), .val (.int la), .val (.int lb), .val (.int cc0), .val (.int cc1), .val (.int cc2), .val (.int dd0), .val (.int dd1), .val (.int dd2), .val (.int (0 : Int32)), .val (.ref s115), .val (.ref s140), .val (.ref b35), .val (.int (own_is ((own_kd i w_HEADER w_IDENTIFIER w_INTEGER w_STRING w_ALIAS w_PUNCTUATION w_BODY w_END w_ABORT w_EOF) = (own_kd j w_HEADER w_IDENTIFIER w_INTEGER w_STRING w_ALIAS w_PUNCTUATION w_BODY w_END w_ABORT w_EOF)) (own_seq (own_cs la (cc0.toUInt32.toUInt16.toUInt32.toInt32) (cc1.toUInt32.toUInt16.toUInt32.toInt32) (cc2.toUInt32.toUInt16.toUInt32.toInt32)) (own_cs lb ((cc0 ^^^ dd0).toUInt32.toUInt16.toUInt32.toInt32) ((cc1 ^^^ dd1).toUInt32.toUInt16.toUInt32.toInt32) ((cc2 ^^^ dd2).toUInt32.toUInt16.toUInt32.toInt32))))), .unset] [(.int dd1)])) (fun _ k => XS.iload X63.here hx rfl (hb hby at_222) rfl k) ?_
              by_cases hc224 : dd1 = (0 : Int32)
              · refine Done.st (B := T63.setTop (mkF m 227 #[.val (.int x0), .val (.int x1), .val (.int x2), .val (.int x3), .val (.int x4), .val (.int x5), .val (.int i), .val (.int j), .val (.int la), .val (.int lb), .val (.int cc0), .val (.int cc1), .val (.int cc2), .val (.int dd0), .val (.int dd1), .val (.int dd2), .val (.int (0 : Int32)), .val (.ref s115), .val (.ref s140), .val (.ref b35), .val (.int (own_is ((own_kd i w_HEADER w_IDENTIFIER w_INTEGER w_STRING w_ALIAS w_PUNCTUATION w_BODY w_END w_ABORT w_EOF) = (own_kd j w_HEADER w_IDENTIFIER w_INTEGER w_STRING w_ALIAS w_PUNCTUATION w_BODY w_END w_ABORT w_EOF)) (own_seq (own_cs la (cc0.toUInt32.toUInt16.toUInt32.toInt32) (cc1.toUInt32.toUInt16.toUInt32.toInt32) (cc2.toUInt32.toUInt16.toUInt32.toInt32)) (own_cs lb ((cc0 ^^^ dd0).toUInt32.toUInt16.toUInt32.toInt32) ((cc1 ^^^ dd1).toUInt32.toUInt16.toUInt32.toInt32) ((cc2 ^^^ dd2).toUInt32.toUInt16.toUInt32.toInt32))))), .unset] [])) (fun _ k => XS.ifNo X63.here hx rfl (hb hby at_224) rfl ((if0 _ _).trans (teq hc224).2) k) ?_
                refine Done.st (B := T63.setTop (mkF m 229 #[.val (.int x0), .val (.int x1), .val (.int x2), .val (.int x3), .val (.int x4), .val (.int x5), .val (.int i), .val (.int j), .val (.int la), .val (.int lb), .val (.int cc0), .val (.int cc1), .val (.int cc2), .val (.int dd0), .val (.int dd1), .val (.int dd2), .val (.int (0 : Int32)), .val (.ref s115), .val (.ref s140), .val (.ref b35), .val (.int (own_is ((own_kd i w_HEADER w_IDENTIFIER w_INTEGER w_STRING w_ALIAS w_PUNCTUATION w_BODY w_END w_ABORT w_EOF) = (own_kd j w_HEADER w_IDENTIFIER w_INTEGER w_STRING w_ALIAS w_PUNCTUATION w_BODY w_END w_ABORT w_EOF)) (own_seq (own_cs la (cc0.toUInt32.toUInt16.toUInt32.toInt32) (cc1.toUInt32.toUInt16.toUInt32.toInt32) (cc2.toUInt32.toUInt16.toUInt32.toInt32)) (own_cs lb ((cc0 ^^^ dd0).toUInt32.toUInt16.toUInt32.toInt32) ((cc1 ^^^ dd1).toUInt32.toUInt16.toUInt32.toInt32) ((cc2 ^^^ dd2).toUInt32.toUInt16.toUInt32.toInt32))))), .unset] [(.int la)])) (fun _ k => XS.iload X63.here hx rfl (hb hby at_227) rfl k) ?_
                refine Done.st (B := T63.setTop (mkF m 230 #[.val (.int x0), .val (.int x1), .val (.int x2), .val (.int x3), .val (.int x4), .val (.int x5), .val (.int i), .val (.int j), .val (.int la), .val (.int lb), .val (.int cc0), .val (.int cc1), .val (.int cc2), .val (.int dd0), .val (.int dd1), .val (.int dd2), .val (.int (0 : Int32)), .val (.ref s115), .val (.ref s140), .val (.ref b35), .val (.int (own_is ((own_kd i w_HEADER w_IDENTIFIER w_INTEGER w_STRING w_ALIAS w_PUNCTUATION w_BODY w_END w_ABORT w_EOF) = (own_kd j w_HEADER w_IDENTIFIER w_INTEGER w_STRING w_ALIAS w_PUNCTUATION w_BODY w_END w_ABORT w_EOF)) (own_seq (own_cs la (cc0.toUInt32.toUInt16.toUInt32.toInt32) (cc1.toUInt32.toUInt16.toUInt32.toInt32) (cc2.toUInt32.toUInt16.toUInt32.toInt32)) (own_cs lb ((cc0 ^^^ dd0).toUInt32.toUInt16.toUInt32.toInt32) ((cc1 ^^^ dd1).toUInt32.toUInt16.toUInt32.toInt32) ((cc2 ^^^ dd2).toUInt32.toUInt16.toUInt32.toInt32))))), .unset] [(.int (3 : Int32)), (.int la)])) (fun _ k => XS.iconst X63.here hx rfl (hb hby at_229) k) ?_
                by_cases hc230 : la < (3 : Int32)
                · refine Done.st (B := T63.setTop (mkF m 238 #[.val (.int x0), .val (.int x1), .val (.int x2), .val (.int x3), .val (.int x4), .val (.int x5), .val (.int i), .val (.int j), .val (.int la), .val (.int lb), .val (.int cc0), .val (.int cc1), .val (.int cc2), .val (.int dd0), .val (.int dd1), .val (.int dd2), .val (.int (0 : Int32)), .val (.ref s115), .val (.ref s140), .val (.ref b35), .val (.int (own_is ((own_kd i w_HEADER w_IDENTIFIER w_INTEGER w_STRING w_ALIAS w_PUNCTUATION w_BODY w_END w_ABORT w_EOF) = (own_kd j w_HEADER w_IDENTIFIER w_INTEGER w_STRING w_ALIAS w_PUNCTUATION w_BODY w_END w_ABORT w_EOF)) (own_seq (own_cs la (cc0.toUInt32.toUInt16.toUInt32.toInt32) (cc1.toUInt32.toUInt16.toUInt32.toInt32) (cc2.toUInt32.toUInt16.toUInt32.toInt32)) (own_cs lb ((cc0 ^^^ dd0).toUInt32.toUInt16.toUInt32.toInt32) ((cc1 ^^^ dd1).toUInt32.toUInt16.toUInt32.toInt32) ((cc2 ^^^ dd2).toUInt32.toUInt16.toUInt32.toInt32))))), .unset] [])) (fun _ k => XS.icmpYes X63.here hx rfl (pc0 := 230) (pc' := 238) rfl (hb hby at_230) rfl (tlt hc230).1 (by decide) (by decide) k) ?_
                  refine Done.st (B := T63.setTop (mkF m 239 #[.val (.int x0), .val (.int x1), .val (.int x2), .val (.int x3), .val (.int x4), .val (.int x5), .val (.int i), .val (.int j), .val (.int la), .val (.int lb), .val (.int cc0), .val (.int cc1), .val (.int cc2), .val (.int dd0), .val (.int dd1), .val (.int dd2), .val (.int (0 : Int32)), .val (.ref s115), .val (.ref s140), .val (.ref b35), .val (.int (own_is ((own_kd i w_HEADER w_IDENTIFIER w_INTEGER w_STRING w_ALIAS w_PUNCTUATION w_BODY w_END w_ABORT w_EOF) = (own_kd j w_HEADER w_IDENTIFIER w_INTEGER w_STRING w_ALIAS w_PUNCTUATION w_BODY w_END w_ABORT w_EOF)) (own_seq (own_cs la (cc0.toUInt32.toUInt16.toUInt32.toInt32) (cc1.toUInt32.toUInt16.toUInt32.toInt32) (cc2.toUInt32.toUInt16.toUInt32.toInt32)) (own_cs lb ((cc0 ^^^ dd0).toUInt32.toUInt16.toUInt32.toInt32) ((cc1 ^^^ dd1).toUInt32.toUInt16.toUInt32.toInt32) ((cc2 ^^^ dd2).toUInt32.toUInt16.toUInt32.toInt32))))), .unset] [(.int (1 : Int32))])) (fun _ k => XS.iconst X63.here hx rfl (hb hby at_238) k) ?_
                  refine Done.st (B := T63.setTop (mkF m 243 #[.val (.int x0), .val (.int x1), .val (.int x2), .val (.int x3), .val (.int x4), .val (.int x5), .val (.int i), .val (.int j), .val (.int la), .val (.int lb), .val (.int cc0), .val (.int cc1), .val (.int cc2), .val (.int dd0), .val (.int dd1), .val (.int dd2), .val (.int (0 : Int32)), .val (.ref s115), .val (.ref s140), .val (.ref b35), .val (.int (own_is ((own_kd i w_HEADER w_IDENTIFIER w_INTEGER w_STRING w_ALIAS w_PUNCTUATION w_BODY w_END w_ABORT w_EOF) = (own_kd j w_HEADER w_IDENTIFIER w_INTEGER w_STRING w_ALIAS w_PUNCTUATION w_BODY w_END w_ABORT w_EOF)) (own_seq (own_cs la (cc0.toUInt32.toUInt16.toUInt32.toInt32) (cc1.toUInt32.toUInt16.toUInt32.toInt32) (cc2.toUInt32.toUInt16.toUInt32.toInt32)) (own_cs lb ((cc0 ^^^ dd0).toUInt32.toUInt16.toUInt32.toInt32) ((cc1 ^^^ dd1).toUInt32.toUInt16.toUInt32.toInt32) ((cc2 ^^^ dd2).toUInt32.toUInt16.toUInt32.toInt32))))), .unset] [(.int (1 : Int32))])) (fun _ k => XS.goto X63.here hx rfl (pc0 := 239) (pc' := 243) rfl (hb hby at_239) (by decide) (by decide) k) ?_
                  refine Done.st (B := T63.setTop (mkF m 245 #[.val (.int x0), .val (.int x1), .val (.int x2), .val (.int x3), .val (.int x4), .val (.int x5), .val (.int i), .val (.int j), .val (.int la), .val (.int lb), .val (.int cc0), .val (.int cc1), .val (.int cc2), .val (.int dd0), .val (.int dd1), .val (.int dd2), .val (.int (0 : Int32)), .val (.ref s115), .val (.ref s140), .val (.ref b35), .val (.int (own_is ((own_kd i w_HEADER w_IDENTIFIER w_INTEGER w_STRING w_ALIAS w_PUNCTUATION w_BODY w_END w_ABORT w_EOF) = (own_kd j w_HEADER w_IDENTIFIER w_INTEGER w_STRING w_ALIAS w_PUNCTUATION w_BODY w_END w_ABORT w_EOF)) (own_seq (own_cs la (cc0.toUInt32.toUInt16.toUInt32.toInt32) (cc1.toUInt32.toUInt16.toUInt32.toInt32) (cc2.toUInt32.toUInt16.toUInt32.toInt32)) (own_cs lb ((cc0 ^^^ dd0).toUInt32.toUInt16.toUInt32.toInt32) ((cc1 ^^^ dd1).toUInt32.toUInt16.toUInt32.toInt32) ((cc2 ^^^ dd2).toUInt32.toUInt16.toUInt32.toInt32))))), .val (.int (1 : Int32))] [])) (fun _ k => XS.istore X63.here hx rfl (hb hby at_243) rfl (l' := #[.val (.int x0), .val (.int x1), .val (.int x2), .val (.int x3), .val (.int x4), .val (.int x5), .val (.int i), .val (.int j), .val (.int la), .val (.int lb), .val (.int cc0), .val (.int cc1), .val (.int cc2), .val (.int dd0), .val (.int dd1), .val (.int dd2), .val (.int (0 : Int32)), .val (.ref s115), .val (.ref s140), .val (.ref b35), .val (.int (own_is ((own_kd i w_HEADER w_IDENTIFIER w_INTEGER w_STRING w_ALIAS w_PUNCTUATION w_BODY w_END w_ABORT w_EOF) = (own_kd j w_HEADER w_IDENTIFIER w_INTEGER w_STRING w_ALIAS w_PUNCTUATION w_BODY w_END w_ABORT w_EOF)) (own_seq (own_cs la (cc0.toUInt32.toUInt16.toUInt32.toInt32) (cc1.toUInt32.toUInt16.toUInt32.toInt32) (cc2.toUInt32.toUInt16.toUInt32.toInt32)) (own_cs lb ((cc0 ^^^ dd0).toUInt32.toUInt16.toUInt32.toInt32) ((cc1 ^^^ dd1).toUInt32.toUInt16.toUInt32.toInt32) ((cc2 ^^^ dd2).toUInt32.toUInt16.toUInt32.toInt32))))), .val (.int (1 : Int32))]) rfl k) ?_
                  exact j245 (1 : Int32) (by unfold own_want; exact (if_pos ⟨hc190, rfl, hc202, Or.inl hc208, Or.inr hc224, Or.inl hc230⟩).symm)
                · refine Done.st (B := T63.setTop (mkF m 233 #[.val (.int x0), .val (.int x1), .val (.int x2), .val (.int x3), .val (.int x4), .val (.int x5), .val (.int i), .val (.int j), .val (.int la), .val (.int lb), .val (.int cc0), .val (.int cc1), .val (.int cc2), .val (.int dd0), .val (.int dd1), .val (.int dd2), .val (.int (0 : Int32)), .val (.ref s115), .val (.ref s140), .val (.ref b35), .val (.int (own_is ((own_kd i w_HEADER w_IDENTIFIER w_INTEGER w_STRING w_ALIAS w_PUNCTUATION w_BODY w_END w_ABORT w_EOF) = (own_kd j w_HEADER w_IDENTIFIER w_INTEGER w_STRING w_ALIAS w_PUNCTUATION w_BODY w_END w_ABORT w_EOF)) (own_seq (own_cs la (cc0.toUInt32.toUInt16.toUInt32.toInt32) (cc1.toUInt32.toUInt16.toUInt32.toInt32) (cc2.toUInt32.toUInt16.toUInt32.toInt32)) (own_cs lb ((cc0 ^^^ dd0).toUInt32.toUInt16.toUInt32.toInt32) ((cc1 ^^^ dd1).toUInt32.toUInt16.toUInt32.toInt32) ((cc2 ^^^ dd2).toUInt32.toUInt16.toUInt32.toInt32))))), .unset] [])) (fun _ k => XS.icmpNo X63.here hx rfl (hb hby at_230) rfl (flt hc230).1 k) ?_
                  refine Done.st (B := T63.setTop (mkF m 235 #[.val (.int x0), .val (.int x1), .val (.int x2), .val (.int x3), .val (.int x4), .val (.int x5), .val (.int i), .val (.int j), .val (.int la), .val (.int lb), .val (.int cc0), .val (.int cc1), .val (.int cc2), .val (.int dd0), .val (.int dd1), .val (.int dd2), .val (.int (0 : Int32)), .val (.ref s115), .val (.ref s140), .val (.ref b35), .val (.int (own_is ((own_kd i w_HEADER w_IDENTIFIER w_INTEGER w_STRING w_ALIAS w_PUNCTUATION w_BODY w_END w_ABORT w_EOF) = (own_kd j w_HEADER w_IDENTIFIER w_INTEGER w_STRING w_ALIAS w_PUNCTUATION w_BODY w_END w_ABORT w_EOF)) (own_seq (own_cs la (cc0.toUInt32.toUInt16.toUInt32.toInt32) (cc1.toUInt32.toUInt16.toUInt32.toInt32) (cc2.toUInt32.toUInt16.toUInt32.toInt32)) (own_cs lb ((cc0 ^^^ dd0).toUInt32.toUInt16.toUInt32.toInt32) ((cc1 ^^^ dd1).toUInt32.toUInt16.toUInt32.toInt32) ((cc2 ^^^ dd2).toUInt32.toUInt16.toUInt32.toInt32))))), .unset] [(.int dd2)])) (fun _ k => XS.iload X63.here hx rfl (hb hby at_233) rfl k) ?_
                  by_cases hc235 : dd2 = (0 : Int32)
                  · refine Done.st (B := T63.setTop (mkF m 238 #[.val (.int x0), .val (.int x1), .val (.int x2), .val (.int x3), .val (.int x4), .val (.int x5), .val (.int i), .val (.int j), .val (.int la), .val (.int lb), .val (.int cc0), .val (.int cc1), .val (.int cc2), .val (.int dd0), .val (.int dd1), .val (.int dd2), .val (.int (0 : Int32)), .val (.ref s115), .val (.ref s140), .val (.ref b35), .val (.int (own_is ((own_kd i w_HEADER w_IDENTIFIER w_INTEGER w_STRING w_ALIAS w_PUNCTUATION w_BODY w_END w_ABORT w_EOF) = (own_kd j w_HEADER w_IDENTIFIER w_INTEGER w_STRING w_ALIAS w_PUNCTUATION w_BODY w_END w_ABORT w_EOF)) (own_seq (own_cs la (cc0.toUInt32.toUInt16.toUInt32.toInt32) (cc1.toUInt32.toUInt16.toUInt32.toInt32) (cc2.toUInt32.toUInt16.toUInt32.toInt32)) (own_cs lb ((cc0 ^^^ dd0).toUInt32.toUInt16.toUInt32.toInt32) ((cc1 ^^^ dd1).toUInt32.toUInt16.toUInt32.toInt32) ((cc2 ^^^ dd2).toUInt32.toUInt16.toUInt32.toInt32))))), .unset] [])) (fun _ k => XS.ifNo X63.here hx rfl (hb hby at_235) rfl ((if0 _ _).trans (teq hc235).2) k) ?_
                    refine Done.st (B := T63.setTop (mkF m 239 #[.val (.int x0), .val (.int x1), .val (.int x2), .val (.int x3), .val (.int x4), .val (.int x5), .val (.int i), .val (.int j), .val (.int la), .val (.int lb), .val (.int cc0), .val (.int cc1), .val (.int cc2), .val (.int dd0), .val (.int dd1), .val (.int dd2), .val (.int (0 : Int32)), .val (.ref s115), .val (.ref s140), .val (.ref b35), .val (.int (own_is ((own_kd i w_HEADER w_IDENTIFIER w_INTEGER w_STRING w_ALIAS w_PUNCTUATION w_BODY w_END w_ABORT w_EOF) = (own_kd j w_HEADER w_IDENTIFIER w_INTEGER w_STRING w_ALIAS w_PUNCTUATION w_BODY w_END w_ABORT w_EOF)) (own_seq (own_cs la (cc0.toUInt32.toUInt16.toUInt32.toInt32) (cc1.toUInt32.toUInt16.toUInt32.toInt32) (cc2.toUInt32.toUInt16.toUInt32.toInt32)) (own_cs lb ((cc0 ^^^ dd0).toUInt32.toUInt16.toUInt32.toInt32) ((cc1 ^^^ dd1).toUInt32.toUInt16.toUInt32.toInt32) ((cc2 ^^^ dd2).toUInt32.toUInt16.toUInt32.toInt32))))), .unset] [(.int (1 : Int32))])) (fun _ k => XS.iconst X63.here hx rfl (hb hby at_238) k) ?_
                    refine Done.st (B := T63.setTop (mkF m 243 #[.val (.int x0), .val (.int x1), .val (.int x2), .val (.int x3), .val (.int x4), .val (.int x5), .val (.int i), .val (.int j), .val (.int la), .val (.int lb), .val (.int cc0), .val (.int cc1), .val (.int cc2), .val (.int dd0), .val (.int dd1), .val (.int dd2), .val (.int (0 : Int32)), .val (.ref s115), .val (.ref s140), .val (.ref b35), .val (.int (own_is ((own_kd i w_HEADER w_IDENTIFIER w_INTEGER w_STRING w_ALIAS w_PUNCTUATION w_BODY w_END w_ABORT w_EOF) = (own_kd j w_HEADER w_IDENTIFIER w_INTEGER w_STRING w_ALIAS w_PUNCTUATION w_BODY w_END w_ABORT w_EOF)) (own_seq (own_cs la (cc0.toUInt32.toUInt16.toUInt32.toInt32) (cc1.toUInt32.toUInt16.toUInt32.toInt32) (cc2.toUInt32.toUInt16.toUInt32.toInt32)) (own_cs lb ((cc0 ^^^ dd0).toUInt32.toUInt16.toUInt32.toInt32) ((cc1 ^^^ dd1).toUInt32.toUInt16.toUInt32.toInt32) ((cc2 ^^^ dd2).toUInt32.toUInt16.toUInt32.toInt32))))), .unset] [(.int (1 : Int32))])) (fun _ k => XS.goto X63.here hx rfl (pc0 := 239) (pc' := 243) rfl (hb hby at_239) (by decide) (by decide) k) ?_
                    refine Done.st (B := T63.setTop (mkF m 245 #[.val (.int x0), .val (.int x1), .val (.int x2), .val (.int x3), .val (.int x4), .val (.int x5), .val (.int i), .val (.int j), .val (.int la), .val (.int lb), .val (.int cc0), .val (.int cc1), .val (.int cc2), .val (.int dd0), .val (.int dd1), .val (.int dd2), .val (.int (0 : Int32)), .val (.ref s115), .val (.ref s140), .val (.ref b35), .val (.int (own_is ((own_kd i w_HEADER w_IDENTIFIER w_INTEGER w_STRING w_ALIAS w_PUNCTUATION w_BODY w_END w_ABORT w_EOF) = (own_kd j w_HEADER w_IDENTIFIER w_INTEGER w_STRING w_ALIAS w_PUNCTUATION w_BODY w_END w_ABORT w_EOF)) (own_seq (own_cs la (cc0.toUInt32.toUInt16.toUInt32.toInt32) (cc1.toUInt32.toUInt16.toUInt32.toInt32) (cc2.toUInt32.toUInt16.toUInt32.toInt32)) (own_cs lb ((cc0 ^^^ dd0).toUInt32.toUInt16.toUInt32.toInt32) ((cc1 ^^^ dd1).toUInt32.toUInt16.toUInt32.toInt32) ((cc2 ^^^ dd2).toUInt32.toUInt16.toUInt32.toInt32))))), .val (.int (1 : Int32))] [])) (fun _ k => XS.istore X63.here hx rfl (hb hby at_243) rfl (l' := #[.val (.int x0), .val (.int x1), .val (.int x2), .val (.int x3), .val (.int x4), .val (.int x5), .val (.int i), .val (.int j), .val (.int la), .val (.int lb), .val (.int cc0), .val (.int cc1), .val (.int cc2), .val (.int dd0), .val (.int dd1), .val (.int dd2), .val (.int (0 : Int32)), .val (.ref s115), .val (.ref s140), .val (.ref b35), .val (.int (own_is ((own_kd i w_HEADER w_IDENTIFIER w_INTEGER w_STRING w_ALIAS w_PUNCTUATION w_BODY w_END w_ABORT w_EOF) = (own_kd j w_HEADER w_IDENTIFIER w_INTEGER w_STRING w_ALIAS w_PUNCTUATION w_BODY w_END w_ABORT w_EOF)) (own_seq (own_cs la (cc0.toUInt32.toUInt16.toUInt32.toInt32) (cc1.toUInt32.toUInt16.toUInt32.toInt32) (cc2.toUInt32.toUInt16.toUInt32.toInt32)) (own_cs lb ((cc0 ^^^ dd0).toUInt32.toUInt16.toUInt32.toInt32) ((cc1 ^^^ dd1).toUInt32.toUInt16.toUInt32.toInt32) ((cc2 ^^^ dd2).toUInt32.toUInt16.toUInt32.toInt32))))), .val (.int (1 : Int32))]) rfl k) ?_
                    exact j245 (1 : Int32) (by unfold own_want; exact (if_pos ⟨hc190, rfl, hc202, Or.inl hc208, Or.inr hc224, Or.inr hc235⟩).symm)
                  · refine Done.st (B := T63.setTop (mkF m 242 #[.val (.int x0), .val (.int x1), .val (.int x2), .val (.int x3), .val (.int x4), .val (.int x5), .val (.int i), .val (.int j), .val (.int la), .val (.int lb), .val (.int cc0), .val (.int cc1), .val (.int cc2), .val (.int dd0), .val (.int dd1), .val (.int dd2), .val (.int (0 : Int32)), .val (.ref s115), .val (.ref s140), .val (.ref b35), .val (.int (own_is ((own_kd i w_HEADER w_IDENTIFIER w_INTEGER w_STRING w_ALIAS w_PUNCTUATION w_BODY w_END w_ABORT w_EOF) = (own_kd j w_HEADER w_IDENTIFIER w_INTEGER w_STRING w_ALIAS w_PUNCTUATION w_BODY w_END w_ABORT w_EOF)) (own_seq (own_cs la (cc0.toUInt32.toUInt16.toUInt32.toInt32) (cc1.toUInt32.toUInt16.toUInt32.toInt32) (cc2.toUInt32.toUInt16.toUInt32.toInt32)) (own_cs lb ((cc0 ^^^ dd0).toUInt32.toUInt16.toUInt32.toInt32) ((cc1 ^^^ dd1).toUInt32.toUInt16.toUInt32.toInt32) ((cc2 ^^^ dd2).toUInt32.toUInt16.toUInt32.toInt32))))), .unset] [])) (fun _ k => XS.ifYes X63.here hx rfl (pc0 := 235) (pc' := 242) rfl (hb hby at_235) rfl ((if0 _ _).trans (feq hc235).2) (by decide) (by decide) k) ?_
                    refine Done.st (B := T63.setTop (mkF m 243 #[.val (.int x0), .val (.int x1), .val (.int x2), .val (.int x3), .val (.int x4), .val (.int x5), .val (.int i), .val (.int j), .val (.int la), .val (.int lb), .val (.int cc0), .val (.int cc1), .val (.int cc2), .val (.int dd0), .val (.int dd1), .val (.int dd2), .val (.int (0 : Int32)), .val (.ref s115), .val (.ref s140), .val (.ref b35), .val (.int (own_is ((own_kd i w_HEADER w_IDENTIFIER w_INTEGER w_STRING w_ALIAS w_PUNCTUATION w_BODY w_END w_ABORT w_EOF) = (own_kd j w_HEADER w_IDENTIFIER w_INTEGER w_STRING w_ALIAS w_PUNCTUATION w_BODY w_END w_ABORT w_EOF)) (own_seq (own_cs la (cc0.toUInt32.toUInt16.toUInt32.toInt32) (cc1.toUInt32.toUInt16.toUInt32.toInt32) (cc2.toUInt32.toUInt16.toUInt32.toInt32)) (own_cs lb ((cc0 ^^^ dd0).toUInt32.toUInt16.toUInt32.toInt32) ((cc1 ^^^ dd1).toUInt32.toUInt16.toUInt32.toInt32) ((cc2 ^^^ dd2).toUInt32.toUInt16.toUInt32.toInt32))))), .unset] [(.int (0 : Int32))])) (fun _ k => XS.iconst X63.here hx rfl (hb hby at_242) k) ?_
                    refine Done.st (B := T63.setTop (mkF m 245 #[.val (.int x0), .val (.int x1), .val (.int x2), .val (.int x3), .val (.int x4), .val (.int x5), .val (.int i), .val (.int j), .val (.int la), .val (.int lb), .val (.int cc0), .val (.int cc1), .val (.int cc2), .val (.int dd0), .val (.int dd1), .val (.int dd2), .val (.int (0 : Int32)), .val (.ref s115), .val (.ref s140), .val (.ref b35), .val (.int (own_is ((own_kd i w_HEADER w_IDENTIFIER w_INTEGER w_STRING w_ALIAS w_PUNCTUATION w_BODY w_END w_ABORT w_EOF) = (own_kd j w_HEADER w_IDENTIFIER w_INTEGER w_STRING w_ALIAS w_PUNCTUATION w_BODY w_END w_ABORT w_EOF)) (own_seq (own_cs la (cc0.toUInt32.toUInt16.toUInt32.toInt32) (cc1.toUInt32.toUInt16.toUInt32.toInt32) (cc2.toUInt32.toUInt16.toUInt32.toInt32)) (own_cs lb ((cc0 ^^^ dd0).toUInt32.toUInt16.toUInt32.toInt32) ((cc1 ^^^ dd1).toUInt32.toUInt16.toUInt32.toInt32) ((cc2 ^^^ dd2).toUInt32.toUInt16.toUInt32.toInt32))))), .val (.int (0 : Int32))] [])) (fun _ k => XS.istore X63.here hx rfl (hb hby at_243) rfl (l' := #[.val (.int x0), .val (.int x1), .val (.int x2), .val (.int x3), .val (.int x4), .val (.int x5), .val (.int i), .val (.int j), .val (.int la), .val (.int lb), .val (.int cc0), .val (.int cc1), .val (.int cc2), .val (.int dd0), .val (.int dd1), .val (.int dd2), .val (.int (0 : Int32)), .val (.ref s115), .val (.ref s140), .val (.ref b35), .val (.int (own_is ((own_kd i w_HEADER w_IDENTIFIER w_INTEGER w_STRING w_ALIAS w_PUNCTUATION w_BODY w_END w_ABORT w_EOF) = (own_kd j w_HEADER w_IDENTIFIER w_INTEGER w_STRING w_ALIAS w_PUNCTUATION w_BODY w_END w_ABORT w_EOF)) (own_seq (own_cs la (cc0.toUInt32.toUInt16.toUInt32.toInt32) (cc1.toUInt32.toUInt16.toUInt32.toInt32) (cc2.toUInt32.toUInt16.toUInt32.toInt32)) (own_cs lb ((cc0 ^^^ dd0).toUInt32.toUInt16.toUInt32.toInt32) ((cc1 ^^^ dd1).toUInt32.toUInt16.toUInt32.toInt32) ((cc2 ^^^ dd2).toUInt32.toUInt16.toUInt32.toInt32))))), .val (.int (0 : Int32))]) rfl k) ?_
                    exact j245 (0 : Int32) (by unfold own_want; exact (if_neg (fun z => z.2.2.2.2.2.elim hc230 hc235)).symm)
              · refine Done.st (B := T63.setTop (mkF m 242 #[.val (.int x0), .val (.int x1), .val (.int x2), .val (.int x3), .val (.int x4), .val (.int x5), .val (.int i), .val (.int j), .val (.int la), .val (.int lb), .val (.int cc0), .val (.int cc1), .val (.int cc2), .val (.int dd0), .val (.int dd1), .val (.int dd2), .val (.int (0 : Int32)), .val (.ref s115), .val (.ref s140), .val (.ref b35), .val (.int (own_is ((own_kd i w_HEADER w_IDENTIFIER w_INTEGER w_STRING w_ALIAS w_PUNCTUATION w_BODY w_END w_ABORT w_EOF) = (own_kd j w_HEADER w_IDENTIFIER w_INTEGER w_STRING w_ALIAS w_PUNCTUATION w_BODY w_END w_ABORT w_EOF)) (own_seq (own_cs la (cc0.toUInt32.toUInt16.toUInt32.toInt32) (cc1.toUInt32.toUInt16.toUInt32.toInt32) (cc2.toUInt32.toUInt16.toUInt32.toInt32)) (own_cs lb ((cc0 ^^^ dd0).toUInt32.toUInt16.toUInt32.toInt32) ((cc1 ^^^ dd1).toUInt32.toUInt16.toUInt32.toInt32) ((cc2 ^^^ dd2).toUInt32.toUInt16.toUInt32.toInt32))))), .unset] [])) (fun _ k => XS.ifYes X63.here hx rfl (pc0 := 224) (pc' := 242) rfl (hb hby at_224) rfl ((if0 _ _).trans (feq hc224).2) (by decide) (by decide) k) ?_
                refine Done.st (B := T63.setTop (mkF m 243 #[.val (.int x0), .val (.int x1), .val (.int x2), .val (.int x3), .val (.int x4), .val (.int x5), .val (.int i), .val (.int j), .val (.int la), .val (.int lb), .val (.int cc0), .val (.int cc1), .val (.int cc2), .val (.int dd0), .val (.int dd1), .val (.int dd2), .val (.int (0 : Int32)), .val (.ref s115), .val (.ref s140), .val (.ref b35), .val (.int (own_is ((own_kd i w_HEADER w_IDENTIFIER w_INTEGER w_STRING w_ALIAS w_PUNCTUATION w_BODY w_END w_ABORT w_EOF) = (own_kd j w_HEADER w_IDENTIFIER w_INTEGER w_STRING w_ALIAS w_PUNCTUATION w_BODY w_END w_ABORT w_EOF)) (own_seq (own_cs la (cc0.toUInt32.toUInt16.toUInt32.toInt32) (cc1.toUInt32.toUInt16.toUInt32.toInt32) (cc2.toUInt32.toUInt16.toUInt32.toInt32)) (own_cs lb ((cc0 ^^^ dd0).toUInt32.toUInt16.toUInt32.toInt32) ((cc1 ^^^ dd1).toUInt32.toUInt16.toUInt32.toInt32) ((cc2 ^^^ dd2).toUInt32.toUInt16.toUInt32.toInt32))))), .unset] [(.int (0 : Int32))])) (fun _ k => XS.iconst X63.here hx rfl (hb hby at_242) k) ?_
                refine Done.st (B := T63.setTop (mkF m 245 #[.val (.int x0), .val (.int x1), .val (.int x2), .val (.int x3), .val (.int x4), .val (.int x5), .val (.int i), .val (.int j), .val (.int la), .val (.int lb), .val (.int cc0), .val (.int cc1), .val (.int cc2), .val (.int dd0), .val (.int dd1), .val (.int dd2), .val (.int (0 : Int32)), .val (.ref s115), .val (.ref s140), .val (.ref b35), .val (.int (own_is ((own_kd i w_HEADER w_IDENTIFIER w_INTEGER w_STRING w_ALIAS w_PUNCTUATION w_BODY w_END w_ABORT w_EOF) = (own_kd j w_HEADER w_IDENTIFIER w_INTEGER w_STRING w_ALIAS w_PUNCTUATION w_BODY w_END w_ABORT w_EOF)) (own_seq (own_cs la (cc0.toUInt32.toUInt16.toUInt32.toInt32) (cc1.toUInt32.toUInt16.toUInt32.toInt32) (cc2.toUInt32.toUInt16.toUInt32.toInt32)) (own_cs lb ((cc0 ^^^ dd0).toUInt32.toUInt16.toUInt32.toInt32) ((cc1 ^^^ dd1).toUInt32.toUInt16.toUInt32.toInt32) ((cc2 ^^^ dd2).toUInt32.toUInt16.toUInt32.toInt32))))), .val (.int (0 : Int32))] [])) (fun _ k => XS.istore X63.here hx rfl (hb hby at_243) rfl (l' := #[.val (.int x0), .val (.int x1), .val (.int x2), .val (.int x3), .val (.int x4), .val (.int x5), .val (.int i), .val (.int j), .val (.int la), .val (.int lb), .val (.int cc0), .val (.int cc1), .val (.int cc2), .val (.int dd0), .val (.int dd1), .val (.int dd2), .val (.int (0 : Int32)), .val (.ref s115), .val (.ref s140), .val (.ref b35), .val (.int (own_is ((own_kd i w_HEADER w_IDENTIFIER w_INTEGER w_STRING w_ALIAS w_PUNCTUATION w_BODY w_END w_ABORT w_EOF) = (own_kd j w_HEADER w_IDENTIFIER w_INTEGER w_STRING w_ALIAS w_PUNCTUATION w_BODY w_END w_ABORT w_EOF)) (own_seq (own_cs la (cc0.toUInt32.toUInt16.toUInt32.toInt32) (cc1.toUInt32.toUInt16.toUInt32.toInt32) (cc2.toUInt32.toUInt16.toUInt32.toInt32)) (own_cs lb ((cc0 ^^^ dd0).toUInt32.toUInt16.toUInt32.toInt32) ((cc1 ^^^ dd1).toUInt32.toUInt16.toUInt32.toInt32) ((cc2 ^^^ dd2).toUInt32.toUInt16.toUInt32.toInt32))))), .val (.int (0 : Int32))]) rfl k) ?_
                exact j245 (0 : Int32) (by unfold own_want; exact (if_neg (fun z => z.2.2.2.2.1.elim hc219 hc224)).symm)
          · refine Done.st (B := T63.setTop (mkF m 211 #[.val (.int x0), .val (.int x1), .val (.int x2), .val (.int x3), .val (.int x4), .val (.int x5), .val (.int i), .val (.int j), .val (.int la), .val (.int lb), .val (.int cc0), .val (.int cc1), .val (.int cc2), .val (.int dd0), .val (.int dd1), .val (.int dd2), .val (.int (0 : Int32)), .val (.ref s115), .val (.ref s140), .val (.ref b35), .val (.int (own_is ((own_kd i w_HEADER w_IDENTIFIER w_INTEGER w_STRING w_ALIAS w_PUNCTUATION w_BODY w_END w_ABORT w_EOF) = (own_kd j w_HEADER w_IDENTIFIER w_INTEGER w_STRING w_ALIAS w_PUNCTUATION w_BODY w_END w_ABORT w_EOF)) (own_seq (own_cs la (cc0.toUInt32.toUInt16.toUInt32.toInt32) (cc1.toUInt32.toUInt16.toUInt32.toInt32) (cc2.toUInt32.toUInt16.toUInt32.toInt32)) (own_cs lb ((cc0 ^^^ dd0).toUInt32.toUInt16.toUInt32.toInt32) ((cc1 ^^^ dd1).toUInt32.toUInt16.toUInt32.toInt32) ((cc2 ^^^ dd2).toUInt32.toUInt16.toUInt32.toInt32))))), .unset] [])) (fun _ k => XS.icmpNo X63.here hx rfl (hb hby at_208) rfl (flt hc208).1 k) ?_
            refine Done.st (B := T63.setTop (mkF m 213 #[.val (.int x0), .val (.int x1), .val (.int x2), .val (.int x3), .val (.int x4), .val (.int x5), .val (.int i), .val (.int j), .val (.int la), .val (.int lb), .val (.int cc0), .val (.int cc1), .val (.int cc2), .val (.int dd0), .val (.int dd1), .val (.int dd2), .val (.int (0 : Int32)), .val (.ref s115), .val (.ref s140), .val (.ref b35), .val (.int (own_is ((own_kd i w_HEADER w_IDENTIFIER w_INTEGER w_STRING w_ALIAS w_PUNCTUATION w_BODY w_END w_ABORT w_EOF) = (own_kd j w_HEADER w_IDENTIFIER w_INTEGER w_STRING w_ALIAS w_PUNCTUATION w_BODY w_END w_ABORT w_EOF)) (own_seq (own_cs la (cc0.toUInt32.toUInt16.toUInt32.toInt32) (cc1.toUInt32.toUInt16.toUInt32.toInt32) (cc2.toUInt32.toUInt16.toUInt32.toInt32)) (own_cs lb ((cc0 ^^^ dd0).toUInt32.toUInt16.toUInt32.toInt32) ((cc1 ^^^ dd1).toUInt32.toUInt16.toUInt32.toInt32) ((cc2 ^^^ dd2).toUInt32.toUInt16.toUInt32.toInt32))))), .unset] [(.int dd0)])) (fun _ k => XS.iload X63.here hx rfl (hb hby at_211) rfl k) ?_
            by_cases hc213 : dd0 = (0 : Int32)
            · refine Done.st (B := T63.setTop (mkF m 216 #[.val (.int x0), .val (.int x1), .val (.int x2), .val (.int x3), .val (.int x4), .val (.int x5), .val (.int i), .val (.int j), .val (.int la), .val (.int lb), .val (.int cc0), .val (.int cc1), .val (.int cc2), .val (.int dd0), .val (.int dd1), .val (.int dd2), .val (.int (0 : Int32)), .val (.ref s115), .val (.ref s140), .val (.ref b35), .val (.int (own_is ((own_kd i w_HEADER w_IDENTIFIER w_INTEGER w_STRING w_ALIAS w_PUNCTUATION w_BODY w_END w_ABORT w_EOF) = (own_kd j w_HEADER w_IDENTIFIER w_INTEGER w_STRING w_ALIAS w_PUNCTUATION w_BODY w_END w_ABORT w_EOF)) (own_seq (own_cs la (cc0.toUInt32.toUInt16.toUInt32.toInt32) (cc1.toUInt32.toUInt16.toUInt32.toInt32) (cc2.toUInt32.toUInt16.toUInt32.toInt32)) (own_cs lb ((cc0 ^^^ dd0).toUInt32.toUInt16.toUInt32.toInt32) ((cc1 ^^^ dd1).toUInt32.toUInt16.toUInt32.toInt32) ((cc2 ^^^ dd2).toUInt32.toUInt16.toUInt32.toInt32))))), .unset] [])) (fun _ k => XS.ifNo X63.here hx rfl (hb hby at_213) rfl ((if0 _ _).trans (teq hc213).2) k) ?_
              refine Done.st (B := T63.setTop (mkF m 218 #[.val (.int x0), .val (.int x1), .val (.int x2), .val (.int x3), .val (.int x4), .val (.int x5), .val (.int i), .val (.int j), .val (.int la), .val (.int lb), .val (.int cc0), .val (.int cc1), .val (.int cc2), .val (.int dd0), .val (.int dd1), .val (.int dd2), .val (.int (0 : Int32)), .val (.ref s115), .val (.ref s140), .val (.ref b35), .val (.int (own_is ((own_kd i w_HEADER w_IDENTIFIER w_INTEGER w_STRING w_ALIAS w_PUNCTUATION w_BODY w_END w_ABORT w_EOF) = (own_kd j w_HEADER w_IDENTIFIER w_INTEGER w_STRING w_ALIAS w_PUNCTUATION w_BODY w_END w_ABORT w_EOF)) (own_seq (own_cs la (cc0.toUInt32.toUInt16.toUInt32.toInt32) (cc1.toUInt32.toUInt16.toUInt32.toInt32) (cc2.toUInt32.toUInt16.toUInt32.toInt32)) (own_cs lb ((cc0 ^^^ dd0).toUInt32.toUInt16.toUInt32.toInt32) ((cc1 ^^^ dd1).toUInt32.toUInt16.toUInt32.toInt32) ((cc2 ^^^ dd2).toUInt32.toUInt16.toUInt32.toInt32))))), .unset] [(.int la)])) (fun _ k => XS.iload X63.here hx rfl (hb hby at_216) rfl k) ?_
              refine Done.st (B := T63.setTop (mkF m 219 #[.val (.int x0), .val (.int x1), .val (.int x2), .val (.int x3), .val (.int x4), .val (.int x5), .val (.int i), .val (.int j), .val (.int la), .val (.int lb), .val (.int cc0), .val (.int cc1), .val (.int cc2), .val (.int dd0), .val (.int dd1), .val (.int dd2), .val (.int (0 : Int32)), .val (.ref s115), .val (.ref s140), .val (.ref b35), .val (.int (own_is ((own_kd i w_HEADER w_IDENTIFIER w_INTEGER w_STRING w_ALIAS w_PUNCTUATION w_BODY w_END w_ABORT w_EOF) = (own_kd j w_HEADER w_IDENTIFIER w_INTEGER w_STRING w_ALIAS w_PUNCTUATION w_BODY w_END w_ABORT w_EOF)) (own_seq (own_cs la (cc0.toUInt32.toUInt16.toUInt32.toInt32) (cc1.toUInt32.toUInt16.toUInt32.toInt32) (cc2.toUInt32.toUInt16.toUInt32.toInt32)) (own_cs lb ((cc0 ^^^ dd0).toUInt32.toUInt16.toUInt32.toInt32) ((cc1 ^^^ dd1).toUInt32.toUInt16.toUInt32.toInt32) ((cc2 ^^^ dd2).toUInt32.toUInt16.toUInt32.toInt32))))), .unset] [(.int (2 : Int32)), (.int la)])) (fun _ k => XS.iconst X63.here hx rfl (hb hby at_218) k) ?_
              by_cases hc219 : la < (2 : Int32)
              · refine Done.st (B := T63.setTop (mkF m 227 #[.val (.int x0), .val (.int x1), .val (.int x2), .val (.int x3), .val (.int x4), .val (.int x5), .val (.int i), .val (.int j), .val (.int la), .val (.int lb), .val (.int cc0), .val (.int cc1), .val (.int cc2), .val (.int dd0), .val (.int dd1), .val (.int dd2), .val (.int (0 : Int32)), .val (.ref s115), .val (.ref s140), .val (.ref b35), .val (.int (own_is ((own_kd i w_HEADER w_IDENTIFIER w_INTEGER w_STRING w_ALIAS w_PUNCTUATION w_BODY w_END w_ABORT w_EOF) = (own_kd j w_HEADER w_IDENTIFIER w_INTEGER w_STRING w_ALIAS w_PUNCTUATION w_BODY w_END w_ABORT w_EOF)) (own_seq (own_cs la (cc0.toUInt32.toUInt16.toUInt32.toInt32) (cc1.toUInt32.toUInt16.toUInt32.toInt32) (cc2.toUInt32.toUInt16.toUInt32.toInt32)) (own_cs lb ((cc0 ^^^ dd0).toUInt32.toUInt16.toUInt32.toInt32) ((cc1 ^^^ dd1).toUInt32.toUInt16.toUInt32.toInt32) ((cc2 ^^^ dd2).toUInt32.toUInt16.toUInt32.toInt32))))), .unset] [])) (fun _ k => XS.icmpYes X63.here hx rfl (pc0 := 219) (pc' := 227) rfl (hb hby at_219) rfl (tlt hc219).1 (by decide) (by decide) k) ?_
                refine Done.st (B := T63.setTop (mkF m 229 #[.val (.int x0), .val (.int x1), .val (.int x2), .val (.int x3), .val (.int x4), .val (.int x5), .val (.int i), .val (.int j), .val (.int la), .val (.int lb), .val (.int cc0), .val (.int cc1), .val (.int cc2), .val (.int dd0), .val (.int dd1), .val (.int dd2), .val (.int (0 : Int32)), .val (.ref s115), .val (.ref s140), .val (.ref b35), .val (.int (own_is ((own_kd i w_HEADER w_IDENTIFIER w_INTEGER w_STRING w_ALIAS w_PUNCTUATION w_BODY w_END w_ABORT w_EOF) = (own_kd j w_HEADER w_IDENTIFIER w_INTEGER w_STRING w_ALIAS w_PUNCTUATION w_BODY w_END w_ABORT w_EOF)) (own_seq (own_cs la (cc0.toUInt32.toUInt16.toUInt32.toInt32) (cc1.toUInt32.toUInt16.toUInt32.toInt32) (cc2.toUInt32.toUInt16.toUInt32.toInt32)) (own_cs lb ((cc0 ^^^ dd0).toUInt32.toUInt16.toUInt32.toInt32) ((cc1 ^^^ dd1).toUInt32.toUInt16.toUInt32.toInt32) ((cc2 ^^^ dd2).toUInt32.toUInt16.toUInt32.toInt32))))), .unset] [(.int la)])) (fun _ k => XS.iload X63.here hx rfl (hb hby at_227) rfl k) ?_
                refine Done.st (B := T63.setTop (mkF m 230 #[.val (.int x0), .val (.int x1), .val (.int x2), .val (.int x3), .val (.int x4), .val (.int x5), .val (.int i), .val (.int j), .val (.int la), .val (.int lb), .val (.int cc0), .val (.int cc1), .val (.int cc2), .val (.int dd0), .val (.int dd1), .val (.int dd2), .val (.int (0 : Int32)), .val (.ref s115), .val (.ref s140), .val (.ref b35), .val (.int (own_is ((own_kd i w_HEADER w_IDENTIFIER w_INTEGER w_STRING w_ALIAS w_PUNCTUATION w_BODY w_END w_ABORT w_EOF) = (own_kd j w_HEADER w_IDENTIFIER w_INTEGER w_STRING w_ALIAS w_PUNCTUATION w_BODY w_END w_ABORT w_EOF)) (own_seq (own_cs la (cc0.toUInt32.toUInt16.toUInt32.toInt32) (cc1.toUInt32.toUInt16.toUInt32.toInt32) (cc2.toUInt32.toUInt16.toUInt32.toInt32)) (own_cs lb ((cc0 ^^^ dd0).toUInt32.toUInt16.toUInt32.toInt32) ((cc1 ^^^ dd1).toUInt32.toUInt16.toUInt32.toInt32) ((cc2 ^^^ dd2).toUInt32.toUInt16.toUInt32.toInt32))))), .unset] [(.int (3 : Int32)), (.int la)])) (fun _ k => XS.iconst X63.here hx rfl (hb hby at_229) k) ?_
                by_cases hc230 : la < (3 : Int32)
                · refine Done.st (B := T63.setTop (mkF m 238 #[.val (.int x0), .val (.int x1), .val (.int x2), .val (.int x3), .val (.int x4), .val (.int x5), .val (.int i), .val (.int j), .val (.int la), .val (.int lb), .val (.int cc0), .val (.int cc1), .val (.int cc2), .val (.int dd0), .val (.int dd1), .val (.int dd2), .val (.int (0 : Int32)), .val (.ref s115), .val (.ref s140), .val (.ref b35), .val (.int (own_is ((own_kd i w_HEADER w_IDENTIFIER w_INTEGER w_STRING w_ALIAS w_PUNCTUATION w_BODY w_END w_ABORT w_EOF) = (own_kd j w_HEADER w_IDENTIFIER w_INTEGER w_STRING w_ALIAS w_PUNCTUATION w_BODY w_END w_ABORT w_EOF)) (own_seq (own_cs la (cc0.toUInt32.toUInt16.toUInt32.toInt32) (cc1.toUInt32.toUInt16.toUInt32.toInt32) (cc2.toUInt32.toUInt16.toUInt32.toInt32)) (own_cs lb ((cc0 ^^^ dd0).toUInt32.toUInt16.toUInt32.toInt32) ((cc1 ^^^ dd1).toUInt32.toUInt16.toUInt32.toInt32) ((cc2 ^^^ dd2).toUInt32.toUInt16.toUInt32.toInt32))))), .unset] [])) (fun _ k => XS.icmpYes X63.here hx rfl (pc0 := 230) (pc' := 238) rfl (hb hby at_230) rfl (tlt hc230).1 (by decide) (by decide) k) ?_
                  refine Done.st (B := T63.setTop (mkF m 239 #[.val (.int x0), .val (.int x1), .val (.int x2), .val (.int x3), .val (.int x4), .val (.int x5), .val (.int i), .val (.int j), .val (.int la), .val (.int lb), .val (.int cc0), .val (.int cc1), .val (.int cc2), .val (.int dd0), .val (.int dd1), .val (.int dd2), .val (.int (0 : Int32)), .val (.ref s115), .val (.ref s140), .val (.ref b35), .val (.int (own_is ((own_kd i w_HEADER w_IDENTIFIER w_INTEGER w_STRING w_ALIAS w_PUNCTUATION w_BODY w_END w_ABORT w_EOF) = (own_kd j w_HEADER w_IDENTIFIER w_INTEGER w_STRING w_ALIAS w_PUNCTUATION w_BODY w_END w_ABORT w_EOF)) (own_seq (own_cs la (cc0.toUInt32.toUInt16.toUInt32.toInt32) (cc1.toUInt32.toUInt16.toUInt32.toInt32) (cc2.toUInt32.toUInt16.toUInt32.toInt32)) (own_cs lb ((cc0 ^^^ dd0).toUInt32.toUInt16.toUInt32.toInt32) ((cc1 ^^^ dd1).toUInt32.toUInt16.toUInt32.toInt32) ((cc2 ^^^ dd2).toUInt32.toUInt16.toUInt32.toInt32))))), .unset] [(.int (1 : Int32))])) (fun _ k => XS.iconst X63.here hx rfl (hb hby at_238) k) ?_
                  refine Done.st (B := T63.setTop (mkF m 243 #[.val (.int x0), .val (.int x1), .val (.int x2), .val (.int x3), .val (.int x4), .val (.int x5), .val (.int i), .val (.int j), .val (.int la), .val (.int lb), .val (.int cc0), .val (.int cc1), .val (.int cc2), .val (.int dd0), .val (.int dd1), .val (.int dd2), .val (.int (0 : Int32)), .val (.ref s115), .val (.ref s140), .val (.ref b35), .val (.int (own_is ((own_kd i w_HEADER w_IDENTIFIER w_INTEGER w_STRING w_ALIAS w_PUNCTUATION w_BODY w_END w_ABORT w_EOF) = (own_kd j w_HEADER w_IDENTIFIER w_INTEGER w_STRING w_ALIAS w_PUNCTUATION w_BODY w_END w_ABORT w_EOF)) (own_seq (own_cs la (cc0.toUInt32.toUInt16.toUInt32.toInt32) (cc1.toUInt32.toUInt16.toUInt32.toInt32) (cc2.toUInt32.toUInt16.toUInt32.toInt32)) (own_cs lb ((cc0 ^^^ dd0).toUInt32.toUInt16.toUInt32.toInt32) ((cc1 ^^^ dd1).toUInt32.toUInt16.toUInt32.toInt32) ((cc2 ^^^ dd2).toUInt32.toUInt16.toUInt32.toInt32))))), .unset] [(.int (1 : Int32))])) (fun _ k => XS.goto X63.here hx rfl (pc0 := 239) (pc' := 243) rfl (hb hby at_239) (by decide) (by decide) k) ?_
                  refine Done.st (B := T63.setTop (mkF m 245 #[.val (.int x0), .val (.int x1), .val (.int x2), .val (.int x3), .val (.int x4), .val (.int x5), .val (.int i), .val (.int j), .val (.int la), .val (.int lb), .val (.int cc0), .val (.int cc1), .val (.int cc2), .val (.int dd0), .val (.int dd1), .val (.int dd2), .val (.int (0 : Int32)), .val (.ref s115), .val (.ref s140), .val (.ref b35), .val (.int (own_is ((own_kd i w_HEADER w_IDENTIFIER w_INTEGER w_STRING w_ALIAS w_PUNCTUATION w_BODY w_END w_ABORT w_EOF) = (own_kd j w_HEADER w_IDENTIFIER w_INTEGER w_STRING w_ALIAS w_PUNCTUATION w_BODY w_END w_ABORT w_EOF)) (own_seq (own_cs la (cc0.toUInt32.toUInt16.toUInt32.toInt32) (cc1.toUInt32.toUInt16.toUInt32.toInt32) (cc2.toUInt32.toUInt16.toUInt32.toInt32)) (own_cs lb ((cc0 ^^^ dd0).toUInt32.toUInt16.toUInt32.toInt32) ((cc1 ^^^ dd1).toUInt32.toUInt16.toUInt32.toInt32) ((cc2 ^^^ dd2).toUInt32.toUInt16.toUInt32.toInt32))))), .val (.int (1 : Int32))] [])) (fun _ k => XS.istore X63.here hx rfl (hb hby at_243) rfl (l' := #[.val (.int x0), .val (.int x1), .val (.int x2), .val (.int x3), .val (.int x4), .val (.int x5), .val (.int i), .val (.int j), .val (.int la), .val (.int lb), .val (.int cc0), .val (.int cc1), .val (.int cc2), .val (.int dd0), .val (.int dd1), .val (.int dd2), .val (.int (0 : Int32)), .val (.ref s115), .val (.ref s140), .val (.ref b35), .val (.int (own_is ((own_kd i w_HEADER w_IDENTIFIER w_INTEGER w_STRING w_ALIAS w_PUNCTUATION w_BODY w_END w_ABORT w_EOF) = (own_kd j w_HEADER w_IDENTIFIER w_INTEGER w_STRING w_ALIAS w_PUNCTUATION w_BODY w_END w_ABORT w_EOF)) (own_seq (own_cs la (cc0.toUInt32.toUInt16.toUInt32.toInt32) (cc1.toUInt32.toUInt16.toUInt32.toInt32) (cc2.toUInt32.toUInt16.toUInt32.toInt32)) (own_cs lb ((cc0 ^^^ dd0).toUInt32.toUInt16.toUInt32.toInt32) ((cc1 ^^^ dd1).toUInt32.toUInt16.toUInt32.toInt32) ((cc2 ^^^ dd2).toUInt32.toUInt16.toUInt32.toInt32))))), .val (.int (1 : Int32))]) rfl k) ?_
                  exact j245 (1 : Int32) (by unfold own_want; exact (if_pos ⟨hc190, rfl, hc202, Or.inr hc213, Or.inl hc219, Or.inl hc230⟩).symm)
                · refine Done.st (B := T63.setTop (mkF m 233 #[.val (.int x0), .val (.int x1), .val (.int x2), .val (.int x3), .val (.int x4), .val (.int x5), .val (.int i), .val (.int j), .val (.int la), .val (.int lb), .val (.int cc0), .val (.int cc1), .val (.int cc2), .val (.int dd0), .val (.int dd1), .val (.int dd2), .val (.int (0 : Int32)), .val (.ref s115), .val (.ref s140), .val (.ref b35), .val (.int (own_is ((own_kd i w_HEADER w_IDENTIFIER w_INTEGER w_STRING w_ALIAS w_PUNCTUATION w_BODY w_END w_ABORT w_EOF) = (own_kd j w_HEADER w_IDENTIFIER w_INTEGER w_STRING w_ALIAS w_PUNCTUATION w_BODY w_END w_ABORT w_EOF)) (own_seq (own_cs la (cc0.toUInt32.toUInt16.toUInt32.toInt32) (cc1.toUInt32.toUInt16.toUInt32.toInt32) (cc2.toUInt32.toUInt16.toUInt32.toInt32)) (own_cs lb ((cc0 ^^^ dd0).toUInt32.toUInt16.toUInt32.toInt32) ((cc1 ^^^ dd1).toUInt32.toUInt16.toUInt32.toInt32) ((cc2 ^^^ dd2).toUInt32.toUInt16.toUInt32.toInt32))))), .unset] [])) (fun _ k => XS.icmpNo X63.here hx rfl (hb hby at_230) rfl (flt hc230).1 k) ?_
                  refine Done.st (B := T63.setTop (mkF m 235 #[.val (.int x0), .val (.int x1), .val (.int x2), .val (.int x3), .val (.int x4), .val (.int x5), .val (.int i), .val (.int j), .val (.int la), .val (.int lb), .val (.int cc0), .val (.int cc1), .val (.int cc2), .val (.int dd0), .val (.int dd1), .val (.int dd2), .val (.int (0 : Int32)), .val (.ref s115), .val (.ref s140), .val (.ref b35), .val (.int (own_is ((own_kd i w_HEADER w_IDENTIFIER w_INTEGER w_STRING w_ALIAS w_PUNCTUATION w_BODY w_END w_ABORT w_EOF) = (own_kd j w_HEADER w_IDENTIFIER w_INTEGER w_STRING w_ALIAS w_PUNCTUATION w_BODY w_END w_ABORT w_EOF)) (own_seq (own_cs la (cc0.toUInt32.toUInt16.toUInt32.toInt32) (cc1.toUInt32.toUInt16.toUInt32.toInt32) (cc2.toUInt32.toUInt16.toUInt32.toInt32)) (own_cs lb ((cc0 ^^^ dd0).toUInt32.toUInt16.toUInt32.toInt32) ((cc1 ^^^ dd1).toUInt32.toUInt16.toUInt32.toInt32) ((cc2 ^^^ dd2).toUInt32.toUInt16.toUInt32.toInt32))))), .unset] [(.int dd2)])) (fun _ k => XS.iload X63.here hx rfl (hb hby at_233) rfl k) ?_
                  by_cases hc235 : dd2 = (0 : Int32)
                  · refine Done.st (B := T63.setTop (mkF m 238 #[.val (.int x0), .val (.int x1), .val (.int x2), .val (.int x3), .val (.int x4), .val (.int x5), .val (.int i), .val (.int j), .val (.int la), .val (.int lb), .val (.int cc0), .val (.int cc1), .val (.int cc2), .val (.int dd0), .val (.int dd1), .val (.int dd2), .val (.int (0 : Int32)), .val (.ref s115), .val (.ref s140), .val (.ref b35), .val (.int (own_is ((own_kd i w_HEADER w_IDENTIFIER w_INTEGER w_STRING w_ALIAS w_PUNCTUATION w_BODY w_END w_ABORT w_EOF) = (own_kd j w_HEADER w_IDENTIFIER w_INTEGER w_STRING w_ALIAS w_PUNCTUATION w_BODY w_END w_ABORT w_EOF)) (own_seq (own_cs la (cc0.toUInt32.toUInt16.toUInt32.toInt32) (cc1.toUInt32.toUInt16.toUInt32.toInt32) (cc2.toUInt32.toUInt16.toUInt32.toInt32)) (own_cs lb ((cc0 ^^^ dd0).toUInt32.toUInt16.toUInt32.toInt32) ((cc1 ^^^ dd1).toUInt32.toUInt16.toUInt32.toInt32) ((cc2 ^^^ dd2).toUInt32.toUInt16.toUInt32.toInt32))))), .unset] [])) (fun _ k => XS.ifNo X63.here hx rfl (hb hby at_235) rfl ((if0 _ _).trans (teq hc235).2) k) ?_
                    refine Done.st (B := T63.setTop (mkF m 239 #[.val (.int x0), .val (.int x1), .val (.int x2), .val (.int x3), .val (.int x4), .val (.int x5), .val (.int i), .val (.int j), .val (.int la), .val (.int lb), .val (.int cc0), .val (.int cc1), .val (.int cc2), .val (.int dd0), .val (.int dd1), .val (.int dd2), .val (.int (0 : Int32)), .val (.ref s115), .val (.ref s140), .val (.ref b35), .val (.int (own_is ((own_kd i w_HEADER w_IDENTIFIER w_INTEGER w_STRING w_ALIAS w_PUNCTUATION w_BODY w_END w_ABORT w_EOF) = (own_kd j w_HEADER w_IDENTIFIER w_INTEGER w_STRING w_ALIAS w_PUNCTUATION w_BODY w_END w_ABORT w_EOF)) (own_seq (own_cs la (cc0.toUInt32.toUInt16.toUInt32.toInt32) (cc1.toUInt32.toUInt16.toUInt32.toInt32) (cc2.toUInt32.toUInt16.toUInt32.toInt32)) (own_cs lb ((cc0 ^^^ dd0).toUInt32.toUInt16.toUInt32.toInt32) ((cc1 ^^^ dd1).toUInt32.toUInt16.toUInt32.toInt32) ((cc2 ^^^ dd2).toUInt32.toUInt16.toUInt32.toInt32))))), .unset] [(.int (1 : Int32))])) (fun _ k => XS.iconst X63.here hx rfl (hb hby at_238) k) ?_
                    refine Done.st (B := T63.setTop (mkF m 243 #[.val (.int x0), .val (.int x1), .val (.int x2), .val (.int x3), .val (.int x4), .val (.int x5), .val (.int i), .val (.int j), .val (.int la), .val (.int lb), .val (.int cc0), .val (.int cc1), .val (.int cc2), .val (.int dd0), .val (.int dd1), .val (.int dd2), .val (.int (0 : Int32)), .val (.ref s115), .val (.ref s140), .val (.ref b35), .val (.int (own_is ((own_kd i w_HEADER w_IDENTIFIER w_INTEGER w_STRING w_ALIAS w_PUNCTUATION w_BODY w_END w_ABORT w_EOF) = (own_kd j w_HEADER w_IDENTIFIER w_INTEGER w_STRING w_ALIAS w_PUNCTUATION w_BODY w_END w_ABORT w_EOF)) (own_seq (own_cs la (cc0.toUInt32.toUInt16.toUInt32.toInt32) (cc1.toUInt32.toUInt16.toUInt32.toInt32) (cc2.toUInt32.toUInt16.toUInt32.toInt32)) (own_cs lb ((cc0 ^^^ dd0).toUInt32.toUInt16.toUInt32.toInt32) ((cc1 ^^^ dd1).toUInt32.toUInt16.toUInt32.toInt32) ((cc2 ^^^ dd2).toUInt32.toUInt16.toUInt32.toInt32))))), .unset] [(.int (1 : Int32))])) (fun _ k => XS.goto X63.here hx rfl (pc0 := 239) (pc' := 243) rfl (hb hby at_239) (by decide) (by decide) k) ?_
                    refine Done.st (B := T63.setTop (mkF m 245 #[.val (.int x0), .val (.int x1), .val (.int x2), .val (.int x3), .val (.int x4), .val (.int x5), .val (.int i), .val (.int j), .val (.int la), .val (.int lb), .val (.int cc0), .val (.int cc1), .val (.int cc2), .val (.int dd0), .val (.int dd1), .val (.int dd2), .val (.int (0 : Int32)), .val (.ref s115), .val (.ref s140), .val (.ref b35), .val (.int (own_is ((own_kd i w_HEADER w_IDENTIFIER w_INTEGER w_STRING w_ALIAS w_PUNCTUATION w_BODY w_END w_ABORT w_EOF) = (own_kd j w_HEADER w_IDENTIFIER w_INTEGER w_STRING w_ALIAS w_PUNCTUATION w_BODY w_END w_ABORT w_EOF)) (own_seq (own_cs la (cc0.toUInt32.toUInt16.toUInt32.toInt32) (cc1.toUInt32.toUInt16.toUInt32.toInt32) (cc2.toUInt32.toUInt16.toUInt32.toInt32)) (own_cs lb ((cc0 ^^^ dd0).toUInt32.toUInt16.toUInt32.toInt32) ((cc1 ^^^ dd1).toUInt32.toUInt16.toUInt32.toInt32) ((cc2 ^^^ dd2).toUInt32.toUInt16.toUInt32.toInt32))))), .val (.int (1 : Int32))] [])) (fun _ k => XS.istore X63.here hx rfl (hb hby at_243) rfl (l' := #[.val (.int x0), .val (.int x1), .val (.int x2), .val (.int x3), .val (.int x4), .val (.int x5), .val (.int i), .val (.int j), .val (.int la), .val (.int lb), .val (.int cc0), .val (.int cc1), .val (.int cc2), .val (.int dd0), .val (.int dd1), .val (.int dd2), .val (.int (0 : Int32)), .val (.ref s115), .val (.ref s140), .val (.ref b35), .val (.int (own_is ((own_kd i w_HEADER w_IDENTIFIER w_INTEGER w_STRING w_ALIAS w_PUNCTUATION w_BODY w_END w_ABORT w_EOF) = (own_kd j w_HEADER w_IDENTIFIER w_INTEGER w_STRING w_ALIAS w_PUNCTUATION w_BODY w_END w_ABORT w_EOF)) (own_seq (own_cs la (cc0.toUInt32.toUInt16.toUInt32.toInt32) (cc1.toUInt32.toUInt16.toUInt32.toInt32) (cc2.toUInt32.toUInt16.toUInt32.toInt32)) (own_cs lb ((cc0 ^^^ dd0).toUInt32.toUInt16.toUInt32.toInt32) ((cc1 ^^^ dd1).toUInt32.toUInt16.toUInt32.toInt32) ((cc2 ^^^ dd2).toUInt32.toUInt16.toUInt32.toInt32))))), .val (.int (1 : Int32))]) rfl k) ?_
                    exact j245 (1 : Int32) (by unfold own_want; exact (if_pos ⟨hc190, rfl, hc202, Or.inr hc213, Or.inl hc219, Or.inr hc235⟩).symm)
                  · refine Done.st (B := T63.setTop (mkF m 242 #[.val (.int x0), .val (.int x1), .val (.int x2), .val (.int x3), .val (.int x4), .val (.int x5), .val (.int i), .val (.int j), .val (.int la), .val (.int lb), .val (.int cc0), .val (.int cc1), .val (.int cc2), .val (.int dd0), .val (.int dd1), .val (.int dd2), .val (.int (0 : Int32)), .val (.ref s115), .val (.ref s140), .val (.ref b35), .val (.int (own_is ((own_kd i w_HEADER w_IDENTIFIER w_INTEGER w_STRING w_ALIAS w_PUNCTUATION w_BODY w_END w_ABORT w_EOF) = (own_kd j w_HEADER w_IDENTIFIER w_INTEGER w_STRING w_ALIAS w_PUNCTUATION w_BODY w_END w_ABORT w_EOF)) (own_seq (own_cs la (cc0.toUInt32.toUInt16.toUInt32.toInt32) (cc1.toUInt32.toUInt16.toUInt32.toInt32) (cc2.toUInt32.toUInt16.toUInt32.toInt32)) (own_cs lb ((cc0 ^^^ dd0).toUInt32.toUInt16.toUInt32.toInt32) ((cc1 ^^^ dd1).toUInt32.toUInt16.toUInt32.toInt32) ((cc2 ^^^ dd2).toUInt32.toUInt16.toUInt32.toInt32))))), .unset] [])) (fun _ k => XS.ifYes X63.here hx rfl (pc0 := 235) (pc' := 242) rfl (hb hby at_235) rfl ((if0 _ _).trans (feq hc235).2) (by decide) (by decide) k) ?_
                    refine Done.st (B := T63.setTop (mkF m 243 #[.val (.int x0), .val (.int x1), .val (.int x2), .val (.int x3), .val (.int x4), .val (.int x5), .val (.int i), .val (.int j), .val (.int la), .val (.int lb), .val (.int cc0), .val (.int cc1), .val (.int cc2), .val (.int dd0), .val (.int dd1), .val (.int dd2), .val (.int (0 : Int32)), .val (.ref s115), .val (.ref s140), .val (.ref b35), .val (.int (own_is ((own_kd i w_HEADER w_IDENTIFIER w_INTEGER w_STRING w_ALIAS w_PUNCTUATION w_BODY w_END w_ABORT w_EOF) = (own_kd j w_HEADER w_IDENTIFIER w_INTEGER w_STRING w_ALIAS w_PUNCTUATION w_BODY w_END w_ABORT w_EOF)) (own_seq (own_cs la (cc0.toUInt32.toUInt16.toUInt32.toInt32) (cc1.toUInt32.toUInt16.toUInt32.toInt32) (cc2.toUInt32.toUInt16.toUInt32.toInt32)) (own_cs lb ((cc0 ^^^ dd0).toUInt32.toUInt16.toUInt32.toInt32) ((cc1 ^^^ dd1).toUInt32.toUInt16.toUInt32.toInt32) ((cc2 ^^^ dd2).toUInt32.toUInt16.toUInt32.toInt32))))), .unset] [(.int (0 : Int32))])) (fun _ k => XS.iconst X63.here hx rfl (hb hby at_242) k) ?_
                    refine Done.st (B := T63.setTop (mkF m 245 #[.val (.int x0), .val (.int x1), .val (.int x2), .val (.int x3), .val (.int x4), .val (.int x5), .val (.int i), .val (.int j), .val (.int la), .val (.int lb), .val (.int cc0), .val (.int cc1), .val (.int cc2), .val (.int dd0), .val (.int dd1), .val (.int dd2), .val (.int (0 : Int32)), .val (.ref s115), .val (.ref s140), .val (.ref b35), .val (.int (own_is ((own_kd i w_HEADER w_IDENTIFIER w_INTEGER w_STRING w_ALIAS w_PUNCTUATION w_BODY w_END w_ABORT w_EOF) = (own_kd j w_HEADER w_IDENTIFIER w_INTEGER w_STRING w_ALIAS w_PUNCTUATION w_BODY w_END w_ABORT w_EOF)) (own_seq (own_cs la (cc0.toUInt32.toUInt16.toUInt32.toInt32) (cc1.toUInt32.toUInt16.toUInt32.toInt32) (cc2.toUInt32.toUInt16.toUInt32.toInt32)) (own_cs lb ((cc0 ^^^ dd0).toUInt32.toUInt16.toUInt32.toInt32) ((cc1 ^^^ dd1).toUInt32.toUInt16.toUInt32.toInt32) ((cc2 ^^^ dd2).toUInt32.toUInt16.toUInt32.toInt32))))), .val (.int (0 : Int32))] [])) (fun _ k => XS.istore X63.here hx rfl (hb hby at_243) rfl (l' := #[.val (.int x0), .val (.int x1), .val (.int x2), .val (.int x3), .val (.int x4), .val (.int x5), .val (.int i), .val (.int j), .val (.int la), .val (.int lb), .val (.int cc0), .val (.int cc1), .val (.int cc2), .val (.int dd0), .val (.int dd1), .val (.int dd2), .val (.int (0 : Int32)), .val (.ref s115), .val (.ref s140), .val (.ref b35), .val (.int (own_is ((own_kd i w_HEADER w_IDENTIFIER w_INTEGER w_STRING w_ALIAS w_PUNCTUATION w_BODY w_END w_ABORT w_EOF) = (own_kd j w_HEADER w_IDENTIFIER w_INTEGER w_STRING w_ALIAS w_PUNCTUATION w_BODY w_END w_ABORT w_EOF)) (own_seq (own_cs la (cc0.toUInt32.toUInt16.toUInt32.toInt32) (cc1.toUInt32.toUInt16.toUInt32.toInt32) (cc2.toUInt32.toUInt16.toUInt32.toInt32)) (own_cs lb ((cc0 ^^^ dd0).toUInt32.toUInt16.toUInt32.toInt32) ((cc1 ^^^ dd1).toUInt32.toUInt16.toUInt32.toInt32) ((cc2 ^^^ dd2).toUInt32.toUInt16.toUInt32.toInt32))))), .val (.int (0 : Int32))]) rfl k) ?_
                    exact j245 (0 : Int32) (by unfold own_want; exact (if_neg (fun z => z.2.2.2.2.2.elim hc230 hc235)).symm)
              · refine Done.st (B := T63.setTop (mkF m 222 #[.val (.int x0), .val (.int x1), .val (.int x2), .val (.int x3), .val (.int x4), .val (.int x5), .val (.int i), .val (.int j), .val (.int la), .val (.int lb), .val (.int cc0), .val (.int cc1), .val (.int cc2), .val (.int dd0), .val (.int dd1), .val (.int dd2), .val (.int (0 : Int32)), .val (.ref s115), .val (.ref s140), .val (.ref b35), .val (.int (own_is ((own_kd i w_HEADER w_IDENTIFIER w_INTEGER w_STRING w_ALIAS w_PUNCTUATION w_BODY w_END w_ABORT w_EOF) = (own_kd j w_HEADER w_IDENTIFIER w_INTEGER w_STRING w_ALIAS w_PUNCTUATION w_BODY w_END w_ABORT w_EOF)) (own_seq (own_cs la (cc0.toUInt32.toUInt16.toUInt32.toInt32) (cc1.toUInt32.toUInt16.toUInt32.toInt32) (cc2.toUInt32.toUInt16.toUInt32.toInt32)) (own_cs lb ((cc0 ^^^ dd0).toUInt32.toUInt16.toUInt32.toInt32) ((cc1 ^^^ dd1).toUInt32.toUInt16.toUInt32.toInt32) ((cc2 ^^^ dd2).toUInt32.toUInt16.toUInt32.toInt32))))), .unset] [])) (fun _ k => XS.icmpNo X63.here hx rfl (hb hby at_219) rfl (flt hc219).1 k) ?_
                refine Done.st (B := T63.setTop (mkF m 224 #[.val (.int x0), .val (.int x1), .val (.int x2), .val (.int x3), .val (.int x4), .val (.int x5), .val (.int i), .val (.int j), .val (.int la), .val (.int lb), .val (.int cc0), .val (.int cc1), .val (.int cc2), .val (.int dd0), .val (.int dd1), .val (.int dd2), .val (.int (0 : Int32)), .val (.ref s115), .val (.ref s140), .val (.ref b35), .val (.int (own_is ((own_kd i w_HEADER w_IDENTIFIER w_INTEGER w_STRING w_ALIAS w_PUNCTUATION w_BODY w_END w_ABORT w_EOF) = (own_kd j w_HEADER w_IDENTIFIER w_INTEGER w_STRING w_ALIAS w_PUNCTUATION w_BODY w_END w_ABORT w_EOF)) (own_seq (own_cs la (cc0.toUInt32.toUInt16.toUInt32.toInt32) (cc1.toUInt32.toUInt16.toUInt32.toInt32) (cc2.toUInt32.toUInt16.toUInt32.toInt32)) (own_cs lb ((cc0 ^^^ dd0).toUInt32.toUInt16.toUInt32.toInt32) ((cc1 ^^^ dd1).toUInt32.toUInt16.toUInt32.toInt32) ((cc2 ^^^ dd2).toUInt32.toUInt16.toUInt32.toInt32))))), .unset] [(.int dd1)])) (fun _ k => XS.iload X63.here hx rfl (hb hby at_222) rfl k) ?_
                by_cases hc224 : dd1 = (0 : Int32)
                · refine Done.st (B := T63.setTop (mkF m 227 #[.val (.int x0), .val (.int x1), .val (.int x2), .val (.int x3), .val (.int x4), .val (.int x5), .val (.int i), .val (.int j), .val (.int la), .val (.int lb), .val (.int cc0), .val (.int cc1), .val (.int cc2), .val (.int dd0), .val (.int dd1), .val (.int dd2), .val (.int (0 : Int32)), .val (.ref s115), .val (.ref s140), .val (.ref b35), .val (.int (own_is ((own_kd i w_HEADER w_IDENTIFIER w_INTEGER w_STRING w_ALIAS w_PUNCTUATION w_BODY w_END w_ABORT w_EOF) = (own_kd j w_HEADER w_IDENTIFIER w_INTEGER w_STRING w_ALIAS w_PUNCTUATION w_BODY w_END w_ABORT w_EOF)) (own_seq (own_cs la (cc0.toUInt32.toUInt16.toUInt32.toInt32) (cc1.toUInt32.toUInt16.toUInt32.toInt32) (cc2.toUInt32.toUInt16.toUInt32.toInt32)) (own_cs lb ((cc0 ^^^ dd0).toUInt32.toUInt16.toUInt32.toInt32) ((cc1 ^^^ dd1).toUInt32.toUInt16.toUInt32.toInt32) ((cc2 ^^^ dd2).toUInt32.toUInt16.toUInt32.toInt32))))), .unset] [])) (fun _ k => XS.ifNo X63.here hx rfl (hb hby at_224) rfl ((if0 _ _).trans (teq hc224).2) k) ?_
                  refine Done.st (B := T63.setTop (mkF m 229 #[.val (.int x0), .val (.int x1), .val (.int x2), .val (.int x3), .val (.int x4), .val (.int x5), .val (.int i), .val (.int j), .val (.int la), .val (.int lb), .val (.int cc0), .val (.int cc1), .val (.int cc2), .val (.int dd0), .val (.int dd1), .val (.int dd2), .val (.int (0 : Int32)), .val (.ref s115), .val (.ref s140), .val (.ref b35), .val (.int (own_is ((own_kd i w_HEADER w_IDENTIFIER w_INTEGER w_STRING w_ALIAS w_PUNCTUATION w_BODY w_END w_ABORT w_EOF) = (own_kd j w_HEADER w_IDENTIFIER w_INTEGER w_STRING w_ALIAS w_PUNCTUATION w_BODY w_END w_ABORT w_EOF)) (own_seq (own_cs la (cc0.toUInt32.toUInt16.toUInt32.toInt32) (cc1.toUInt32.toUInt16.toUInt32.toInt32) (cc2.toUInt32.toUInt16.toUInt32.toInt32)) (own_cs lb ((cc0 ^^^ dd0).toUInt32.toUInt16.toUInt32.toInt32) ((cc1 ^^^ dd1).toUInt32.toUInt16.toUInt32.toInt32) ((cc2 ^^^ dd2).toUInt32.toUInt16.toUInt32.toInt32))))), .unset] [(.int la)])) (fun _ k => XS.iload X63.here hx rfl (hb hby at_227) rfl k) ?_
                  refine Done.st (B := T63.setTop (mkF m 230 #[.val (.int x0), .val (.int x1), .val (.int x2), .val (.int x3), .val (.int x4), .val (.int x5), .val (.int i), .val (.int j), .val (.int la), .val (.int lb), .val (.int cc0), .val (.int cc1), .val (.int cc2), .val (.int dd0), .val (.int dd1), .val (.int dd2), .val (.int (0 : Int32)), .val (.ref s115), .val (.ref s140), .val (.ref b35), .val (.int (own_is ((own_kd i w_HEADER w_IDENTIFIER w_INTEGER w_STRING w_ALIAS w_PUNCTUATION w_BODY w_END w_ABORT w_EOF) = (own_kd j w_HEADER w_IDENTIFIER w_INTEGER w_STRING w_ALIAS w_PUNCTUATION w_BODY w_END w_ABORT w_EOF)) (own_seq (own_cs la (cc0.toUInt32.toUInt16.toUInt32.toInt32) (cc1.toUInt32.toUInt16.toUInt32.toInt32) (cc2.toUInt32.toUInt16.toUInt32.toInt32)) (own_cs lb ((cc0 ^^^ dd0).toUInt32.toUInt16.toUInt32.toInt32) ((cc1 ^^^ dd1).toUInt32.toUInt16.toUInt32.toInt32) ((cc2 ^^^ dd2).toUInt32.toUInt16.toUInt32.toInt32))))), .unset] [(.int (3 : Int32)), (.int la)])) (fun _ k => XS.iconst X63.here hx rfl (hb hby at_229) k) ?_
                  by_cases hc230 : la < (3 : Int32)
                  · refine Done.st (B := T63.setTop (mkF m 238 #[.val (.int x0), .val (.int x1), .val (.int x2), .val (.int x3), .val (.int x4), .val (.int x5), .val (.int i), .val (.int j), .val (.int la), .val (.int lb), .val (.int cc0), .val (.int cc1), .val (.int cc2), .val (.int dd0), .val (.int dd1), .val (.int dd2), .val (.int (0 : Int32)), .val (.ref s115), .val (.ref s140), .val (.ref b35), .val (.int (own_is ((own_kd i w_HEADER w_IDENTIFIER w_INTEGER w_STRING w_ALIAS w_PUNCTUATION w_BODY w_END w_ABORT w_EOF) = (own_kd j w_HEADER w_IDENTIFIER w_INTEGER w_STRING w_ALIAS w_PUNCTUATION w_BODY w_END w_ABORT w_EOF)) (own_seq (own_cs la (cc0.toUInt32.toUInt16.toUInt32.toInt32) (cc1.toUInt32.toUInt16.toUInt32.toInt32) (cc2.toUInt32.toUInt16.toUInt32.toInt32)) (own_cs lb ((cc0 ^^^ dd0).toUInt32.toUInt16.toUInt32.toInt32) ((cc1 ^^^ dd1).toUInt32.toUInt16.toUInt32.toInt32) ((cc2 ^^^ dd2).toUInt32.toUInt16.toUInt32.toInt32))))), .unset] [])) (fun _ k => XS.icmpYes X63.here hx rfl (pc0 := 230) (pc' := 238) rfl (hb hby at_230) rfl (tlt hc230).1 (by decide) (by decide) k) ?_
                    refine Done.st (B := T63.setTop (mkF m 239 #[.val (.int x0), .val (.int x1), .val (.int x2), .val (.int x3), .val (.int x4), .val (.int x5), .val (.int i), .val (.int j), .val (.int la), .val (.int lb), .val (.int cc0), .val (.int cc1), .val (.int cc2), .val (.int dd0), .val (.int dd1), .val (.int dd2), .val (.int (0 : Int32)), .val (.ref s115), .val (.ref s140), .val (.ref b35), .val (.int (own_is ((own_kd i w_HEADER w_IDENTIFIER w_INTEGER w_STRING w_ALIAS w_PUNCTUATION w_BODY w_END w_ABORT w_EOF) = (own_kd j w_HEADER w_IDENTIFIER w_INTEGER w_STRING w_ALIAS w_PUNCTUATION w_BODY w_END w_ABORT w_EOF)) (own_seq (own_cs la (cc0.toUInt32.toUInt16.toUInt32.toInt32) (cc1.toUInt32.toUInt16.toUInt32.toInt32) (cc2.toUInt32.toUInt16.toUInt32.toInt32)) (own_cs lb ((cc0 ^^^ dd0).toUInt32.toUInt16.toUInt32.toInt32) ((cc1 ^^^ dd1).toUInt32.toUInt16.toUInt32.toInt32) ((cc2 ^^^ dd2).toUInt32.toUInt16.toUInt32.toInt32))))), .unset] [(.int (1 : Int32))])) (fun _ k => XS.iconst X63.here hx rfl (hb hby at_238) k) ?_
                    refine Done.st (B := T63.setTop (mkF m 243 #[.val (.int x0), .val (.int x1), .val (.int x2), .val (.int x3), .val (.int x4), .val (.int x5), .val (.int i), .val (.int j), .val (.int la), .val (.int lb), .val (.int cc0), .val (.int cc1), .val (.int cc2), .val (.int dd0), .val (.int dd1), .val (.int dd2), .val (.int (0 : Int32)), .val (.ref s115), .val (.ref s140), .val (.ref b35), .val (.int (own_is ((own_kd i w_HEADER w_IDENTIFIER w_INTEGER w_STRING w_ALIAS w_PUNCTUATION w_BODY w_END w_ABORT w_EOF) = (own_kd j w_HEADER w_IDENTIFIER w_INTEGER w_STRING w_ALIAS w_PUNCTUATION w_BODY w_END w_ABORT w_EOF)) (own_seq (own_cs la (cc0.toUInt32.toUInt16.toUInt32.toInt32) (cc1.toUInt32.toUInt16.toUInt32.toInt32) (cc2.toUInt32.toUInt16.toUInt32.toInt32)) (own_cs lb ((cc0 ^^^ dd0).toUInt32.toUInt16.toUInt32.toInt32) ((cc1 ^^^ dd1).toUInt32.toUInt16.toUInt32.toInt32) ((cc2 ^^^ dd2).toUInt32.toUInt16.toUInt32.toInt32))))), .unset] [(.int (1 : Int32))])) (fun _ k => XS.goto X63.here hx rfl (pc0 := 239) (pc' := 243) rfl (hb hby at_239) (by decide) (by decide) k) ?_
                    refine Done.st (B := T63.setTop (mkF m 245 #[.val (.int x0), .val (.int x1), .val (.int x2), .val (.int x3), .val (.int x4), .val (.int x5), .val (.int i), .val (.int j), .val (.int la), .val (.int lb), .val (.int cc0), .val (.int cc1), .val (.int cc2), .val (.int dd0), .val (.int dd1), .val (.int dd2), .val (.int (0 : Int32)), .val (.ref s115), .val (.ref s140), .val (.ref b35), .val (.int (own_is ((own_kd i w_HEADER w_IDENTIFIER w_INTEGER w_STRING w_ALIAS w_PUNCTUATION w_BODY w_END w_ABORT w_EOF) = (own_kd j w_HEADER w_IDENTIFIER w_INTEGER w_STRING w_ALIAS w_PUNCTUATION w_BODY w_END w_ABORT w_EOF)) (own_seq (own_cs la (cc0.toUInt32.toUInt16.toUInt32.toInt32) (cc1.toUInt32.toUInt16.toUInt32.toInt32) (cc2.toUInt32.toUInt16.toUInt32.toInt32)) (own_cs lb ((cc0 ^^^ dd0).toUInt32.toUInt16.toUInt32.toInt32) ((cc1 ^^^ dd1).toUInt32.toUInt16.toUInt32.toInt32) ((cc2 ^^^ dd2).toUInt32.toUInt16.toUInt32.toInt32))))), .val (.int (1 : Int32))] [])) (fun _ k => XS.istore X63.here hx rfl (hb hby at_243) rfl (l' := #[.val (.int x0), .val (.int x1), .val (.int x2), .val (.int x3), .val (.int x4), .val (.int x5), .val (.int i), .val (.int j), .val (.int la), .val (.int lb), .val (.int cc0), .val (.int cc1), .val (.int cc2), .val (.int dd0), .val (.int dd1), .val (.int dd2), .val (.int (0 : Int32)), .val (.ref s115), .val (.ref s140), .val (.ref b35), .val (.int (own_is ((own_kd i w_HEADER w_IDENTIFIER w_INTEGER w_STRING w_ALIAS w_PUNCTUATION w_BODY w_END w_ABORT w_EOF) = (own_kd j w_HEADER w_IDENTIFIER w_INTEGER w_STRING w_ALIAS w_PUNCTUATION w_BODY w_END w_ABORT w_EOF)) (own_seq (own_cs la (cc0.toUInt32.toUInt16.toUInt32.toInt32) (cc1.toUInt32.toUInt16.toUInt32.toInt32) (cc2.toUInt32.toUInt16.toUInt32.toInt32)) (own_cs lb ((cc0 ^^^ dd0).toUInt32.toUInt16.toUInt32.toInt32) ((cc1 ^^^ dd1).toUInt32.toUInt16.toUInt32.toInt32) ((cc2 ^^^ dd2).toUInt32.toUInt16.toUInt32.toInt32))))), .val (.int (1 : Int32))]) rfl k) ?_
                    exact j245 (1 : Int32) (by unfold own_want; exact (if_pos ⟨hc190, rfl, hc202, Or.inr hc213, Or.inr hc224, Or.inl hc230⟩).symm)
                  · refine Done.st (B := T63.setTop (mkF m 233 #[.val (.int x0), .val (.int x1), .val (.int x2), .val (.int x3), .val (.int x4), .val (.int x5), .val (.int i), .val (.int j), .val (.int la), .val (.int lb), .val (.int cc0), .val (.int cc1), .val (.int cc2), .val (.int dd0), .val (.int dd1), .val (.int dd2), .val (.int (0 : Int32)), .val (.ref s115), .val (.ref s140), .val (.ref b35), .val (.int (own_is ((own_kd i w_HEADER w_IDENTIFIER w_INTEGER w_STRING w_ALIAS w_PUNCTUATION w_BODY w_END w_ABORT w_EOF) = (own_kd j w_HEADER w_IDENTIFIER w_INTEGER w_STRING w_ALIAS w_PUNCTUATION w_BODY w_END w_ABORT w_EOF)) (own_seq (own_cs la (cc0.toUInt32.toUInt16.toUInt32.toInt32) (cc1.toUInt32.toUInt16.toUInt32.toInt32) (cc2.toUInt32.toUInt16.toUInt32.toInt32)) (own_cs lb ((cc0 ^^^ dd0).toUInt32.toUInt16.toUInt32.toInt32) ((cc1 ^^^ dd1).toUInt32.toUInt16.toUInt32.toInt32) ((cc2 ^^^ dd2).toUInt32.toUInt16.toUInt32.toInt32))))), .unset] [])) (fun _ k => XS.icmpNo X63.here hx rfl (hb hby at_230) rfl (flt hc230).1 k) ?_
                    refine Done.st (B := T63.setTop (mkF m 235 #[.val (.int x0), .val (.int x1), .val (.int x2), .val (.int x3), .val (.int x4), .val (.int x5), .val (.int i), .val (.int j), .val (.int la), .val (.int lb), .val (.int cc0), .val (.int cc1), .val (.int cc2), .val (.int dd0), .val (.int dd1), .val (.int dd2), .val (.int (0 : Int32)), .val (.ref s115), .val (.ref s140), .val (.ref b35), .val (.int (own_is ((own_kd i w_HEADER w_IDENTIFIER w_INTEGER w_STRING w_ALIAS w_PUNCTUATION w_BODY w_END w_ABORT w_EOF) = (own_kd j w_HEADER w_IDENTIFIER w_INTEGER w_STRING w_ALIAS w_PUNCTUATION w_BODY w_END w_ABORT w_EOF)) (own_seq (own_cs la (cc0.toUInt32.toUInt16.toUInt32.toInt32) (cc1.toUInt32.toUInt16.toUInt32.toInt32) (cc2.toUInt32.toUInt16.toUInt32.toInt32)) (own_cs lb ((cc0 ^^^ dd0).toUInt32.toUInt16.toUInt32.toInt32) ((cc1 ^^^ dd1).toUInt32.toUInt16.toUInt32.toInt32) ((cc2 ^^^ dd2).toUInt32.toUInt16.toUInt32.toInt32))))), .unset] [(.int dd2)])) (fun _ k => XS.iload X63.here hx rfl (hb hby at_233) rfl k) ?_
                    by_cases hc235 : dd2 = (0 : Int32)
                    · refine Done.st (B := T63.setTop (mkF m 238 #[.val (.int x0), .val (.int x1), .val (.int x2), .val (.int x3), .val (.int x4), .val (.int x5), .val (.int i), .val (.int j), .val (.int la), .val (.int lb), .val (.int cc0), .val (.int cc1), .val (.int cc2), .val (.int dd0), .val (.int dd1), .val (.int dd2), .val (.int (0 : Int32)), .val (.ref s115), .val (.ref s140), .val (.ref b35), .val (.int (own_is ((own_kd i w_HEADER w_IDENTIFIER w_INTEGER w_STRING w_ALIAS w_PUNCTUATION w_BODY w_END w_ABORT w_EOF) = (own_kd j w_HEADER w_IDENTIFIER w_INTEGER w_STRING w_ALIAS w_PUNCTUATION w_BODY w_END w_ABORT w_EOF)) (own_seq (own_cs la (cc0.toUInt32.toUInt16.toUInt32.toInt32) (cc1.toUInt32.toUInt16.toUInt32.toInt32) (cc2.toUInt32.toUInt16.toUInt32.toInt32)) (own_cs lb ((cc0 ^^^ dd0).toUInt32.toUInt16.toUInt32.toInt32) ((cc1 ^^^ dd1).toUInt32.toUInt16.toUInt32.toInt32) ((cc2 ^^^ dd2).toUInt32.toUInt16.toUInt32.toInt32))))), .unset] [])) (fun _ k => XS.ifNo X63.here hx rfl (hb hby at_235) rfl ((if0 _ _).trans (teq hc235).2) k) ?_
                      refine Done.st (B := T63.setTop (mkF m 239 #[.val (.int x0), .val (.int x1), .val (.int x2), .val (.int x3), .val (.int x4), .val (.int x5), .val (.int i), .val (.int j), .val (.int la), .val (.int lb), .val (.int cc0), .val (.int cc1), .val (.int cc2), .val (.int dd0), .val (.int dd1), .val (.int dd2), .val (.int (0 : Int32)), .val (.ref s115), .val (.ref s140), .val (.ref b35), .val (.int (own_is ((own_kd i w_HEADER w_IDENTIFIER w_INTEGER w_STRING w_ALIAS w_PUNCTUATION w_BODY w_END w_ABORT w_EOF) = (own_kd j w_HEADER w_IDENTIFIER w_INTEGER w_STRING w_ALIAS w_PUNCTUATION w_BODY w_END w_ABORT w_EOF)) (own_seq (own_cs la (cc0.toUInt32.toUInt16.toUInt32.toInt32) (cc1.toUInt32.toUInt16.toUInt32.toInt32) (cc2.toUInt32.toUInt16.toUInt32.toInt32)) (own_cs lb ((cc0 ^^^ dd0).toUInt32.toUInt16.toUInt32.toInt32) ((cc1 ^^^ dd1).toUInt32.toUInt16.toUInt32.toInt32) ((cc2 ^^^ dd2).toUInt32.toUInt16.toUInt32.toInt32))))), .unset] [(.int (1 : Int32))])) (fun _ k => XS.iconst X63.here hx rfl (hb hby at_238) k) ?_
                      refine Done.st (B := T63.setTop (mkF m 243 #[.val (.int x0), .val (.int x1), .val (.int x2), .val (.int x3), .val (.int x4), .val (.int x5), .val (.int i), .val (.int j), .val (.int la), .val (.int lb), .val (.int cc0), .val (.int cc1), .val (.int cc2), .val (.int dd0), .val (.int dd1), .val (.int dd2), .val (.int (0 : Int32)), .val (.ref s115), .val (.ref s140), .val (.ref b35), .val (.int (own_is ((own_kd i w_HEADER w_IDENTIFIER w_INTEGER w_STRING w_ALIAS w_PUNCTUATION w_BODY w_END w_ABORT w_EOF) = (own_kd j w_HEADER w_IDENTIFIER w_INTEGER w_STRING w_ALIAS w_PUNCTUATION w_BODY w_END w_ABORT w_EOF)) (own_seq (own_cs la (cc0.toUInt32.toUInt16.toUInt32.toInt32) (cc1.toUInt32.toUInt16.toUInt32.toInt32) (cc2.toUInt32.toUInt16.toUInt32.toInt32)) (own_cs lb ((cc0 ^^^ dd0).toUInt32.toUInt16.toUInt32.toInt32) ((cc1 ^^^ dd1).toUInt32.toUInt16.toUInt32.toInt32) ((cc2 ^^^ dd2).toUInt32.toUInt16.toUInt32.toInt32))))), .unset] [(.int (1 : Int32))])) (fun _ k => XS.goto X63.here hx rfl (pc0 := 239) (pc' := 243) rfl (hb hby at_239) (by decide) (by decide) k) ?_
                      refine Done.st (B := T63.setTop (mkF m 245 #[.val (.int x0), .val (.int x1), .val (.int x2), .val (.int x3), .val (.int x4), .val (.int x5), .val (.int i), .val (.int j), .val (.int la), .val (.int lb), .val (.int cc0), .val (.int cc1), .val (.int cc2), .val (.int dd0), .val (.int dd1), .val (.int dd2), .val (.int (0 : Int32)), .val (.ref s115), .val (.ref s140), .val (.ref b35), .val (.int (own_is ((own_kd i w_HEADER w_IDENTIFIER w_INTEGER w_STRING w_ALIAS w_PUNCTUATION w_BODY w_END w_ABORT w_EOF) = (own_kd j w_HEADER w_IDENTIFIER w_INTEGER w_STRING w_ALIAS w_PUNCTUATION w_BODY w_END w_ABORT w_EOF)) (own_seq (own_cs la (cc0.toUInt32.toUInt16.toUInt32.toInt32) (cc1.toUInt32.toUInt16.toUInt32.toInt32) (cc2.toUInt32.toUInt16.toUInt32.toInt32)) (own_cs lb ((cc0 ^^^ dd0).toUInt32.toUInt16.toUInt32.toInt32) ((cc1 ^^^ dd1).toUInt32.toUInt16.toUInt32.toInt32) ((cc2 ^^^ dd2).toUInt32.toUInt16.toUInt32.toInt32))))), .val (.int (1 : Int32))] [])) (fun _ k => XS.istore X63.here hx rfl (hb hby at_243) rfl (l' := #[.val (.int x0), .val (.int x1), .val (.int x2), .val (.int x3), .val (.int x4), .val (.int x5), .val (.int i), .val (.int j), .val (.int la), .val (.int lb), .val (.int cc0), .val (.int cc1), .val (.int cc2), .val (.int dd0), .val (.int dd1), .val (.int dd2), .val (.int (0 : Int32)), .val (.ref s115), .val (.ref s140), .val (.ref b35), .val (.int (own_is ((own_kd i w_HEADER w_IDENTIFIER w_INTEGER w_STRING w_ALIAS w_PUNCTUATION w_BODY w_END w_ABORT w_EOF) = (own_kd j w_HEADER w_IDENTIFIER w_INTEGER w_STRING w_ALIAS w_PUNCTUATION w_BODY w_END w_ABORT w_EOF)) (own_seq (own_cs la (cc0.toUInt32.toUInt16.toUInt32.toInt32) (cc1.toUInt32.toUInt16.toUInt32.toInt32) (cc2.toUInt32.toUInt16.toUInt32.toInt32)) (own_cs lb ((cc0 ^^^ dd0).toUInt32.toUInt16.toUInt32.toInt32) ((cc1 ^^^ dd1).toUInt32.toUInt16.toUInt32.toInt32) ((cc2 ^^^ dd2).toUInt32.toUInt16.toUInt32.toInt32))))), .val (.int (1 : Int32))]) rfl k) ?_
                      exact j245 (1 : Int32) (by unfold own_want; exact (if_pos ⟨hc190, rfl, hc202, Or.inr hc213, Or.inr hc224, Or.inr hc235⟩).symm)
                    · refine Done.st (B := T63.setTop (mkF m 242 #[.val (.int x0), .val (.int x1), .val (.int x2), .val (.int x3), .val (.int x4), .val (.int x5), .val (.int i), .val (.int j), .val (.int la), .val (.int lb), .val (.int cc0), .val (.int cc1), .val (.int cc2), .val (.int dd0), .val (.int dd1), .val (.int dd2), .val (.int (0 : Int32)), .val (.ref s115), .val (.ref s140), .val (.ref b35), .val (.int (own_is ((own_kd i w_HEADER w_IDENTIFIER w_INTEGER w_STRING w_ALIAS w_PUNCTUATION w_BODY w_END w_ABORT w_EOF) = (own_kd j w_HEADER w_IDENTIFIER w_INTEGER w_STRING w_ALIAS w_PUNCTUATION w_BODY w_END w_ABORT w_EOF)) (own_seq (own_cs la (cc0.toUInt32.toUInt16.toUInt32.toInt32) (cc1.toUInt32.toUInt16.toUInt32.toInt32) (cc2.toUInt32.toUInt16.toUInt32.toInt32)) (own_cs lb ((cc0 ^^^ dd0).toUInt32.toUInt16.toUInt32.toInt32) ((cc1 ^^^ dd1).toUInt32.toUInt16.toUInt32.toInt32) ((cc2 ^^^ dd2).toUInt32.toUInt16.toUInt32.toInt32))))), .unset] [])) (fun _ k => XS.ifYes X63.here hx rfl (pc0 := 235) (pc' := 242) rfl (hb hby at_235) rfl ((if0 _ _).trans (feq hc235).2) (by decide) (by decide) k) ?_
                      refine Done.st (B := T63.setTop (mkF m 243 #[.val (.int x0), .val (.int x1), .val (.int x2), .val (.int x3), .val (.int x4), .val (.int x5), .val (.int i), .val (.int j), .val (.int la), .val (.int lb), .val (.int cc0), .val (.int cc1), .val (.int cc2), .val (.int dd0), .val (.int dd1), .val (.int dd2), .val (.int (0 : Int32)), .val (.ref s115), .val (.ref s140), .val (.ref b35), .val (.int (own_is ((own_kd i w_HEADER w_IDENTIFIER w_INTEGER w_STRING w_ALIAS w_PUNCTUATION w_BODY w_END w_ABORT w_EOF) = (own_kd j w_HEADER w_IDENTIFIER w_INTEGER w_STRING w_ALIAS w_PUNCTUATION w_BODY w_END w_ABORT w_EOF)) (own_seq (own_cs la (cc0.toUInt32.toUInt16.toUInt32.toInt32) (cc1.toUInt32.toUInt16.toUInt32.toInt32) (cc2.toUInt32.toUInt16.toUInt32.toInt32)) (own_cs lb ((cc0 ^^^ dd0).toUInt32.toUInt16.toUInt32.toInt32) ((cc1 ^^^ dd1).toUInt32.toUInt16.toUInt32.toInt32) ((cc2 ^^^ dd2).toUInt32.toUInt16.toUInt32.toInt32))))), .unset] [(.int (0 : Int32))])) (fun _ k => XS.iconst X63.here hx rfl (hb hby at_242) k) ?_
                      refine Done.st (B := T63.setTop (mkF m 245 #[.val (.int x0), .val (.int x1), .val (.int x2), .val (.int x3), .val (.int x4), .val (.int x5), .val (.int i), .val (.int j), .val (.int la), .val (.int lb), .val (.int cc0), .val (.int cc1), .val (.int cc2), .val (.int dd0), .val (.int dd1), .val (.int dd2), .val (.int (0 : Int32)), .val (.ref s115), .val (.ref s140), .val (.ref b35), .val (.int (own_is ((own_kd i w_HEADER w_IDENTIFIER w_INTEGER w_STRING w_ALIAS w_PUNCTUATION w_BODY w_END w_ABORT w_EOF) = (own_kd j w_HEADER w_IDENTIFIER w_INTEGER w_STRING w_ALIAS w_PUNCTUATION w_BODY w_END w_ABORT w_EOF)) (own_seq (own_cs la (cc0.toUInt32.toUInt16.toUInt32.toInt32) (cc1.toUInt32.toUInt16.toUInt32.toInt32) (cc2.toUInt32.toUInt16.toUInt32.toInt32)) (own_cs lb ((cc0 ^^^ dd0).toUInt32.toUInt16.toUInt32.toInt32) ((cc1 ^^^ dd1).toUInt32.toUInt16.toUInt32.toInt32) ((cc2 ^^^ dd2).toUInt32.toUInt16.toUInt32.toInt32))))), .val (.int (0 : Int32))] [])) (fun _ k => XS.istore X63.here hx rfl (hb hby at_243) rfl (l' := #[.val (.int x0), .val (.int x1), .val (.int x2), .val (.int x3), .val (.int x4), .val (.int x5), .val (.int i), .val (.int j), .val (.int la), .val (.int lb), .val (.int cc0), .val (.int cc1), .val (.int cc2), .val (.int dd0), .val (.int dd1), .val (.int dd2), .val (.int (0 : Int32)), .val (.ref s115), .val (.ref s140), .val (.ref b35), .val (.int (own_is ((own_kd i w_HEADER w_IDENTIFIER w_INTEGER w_STRING w_ALIAS w_PUNCTUATION w_BODY w_END w_ABORT w_EOF) = (own_kd j w_HEADER w_IDENTIFIER w_INTEGER w_STRING w_ALIAS w_PUNCTUATION w_BODY w_END w_ABORT w_EOF)) (own_seq (own_cs la (cc0.toUInt32.toUInt16.toUInt32.toInt32) (cc1.toUInt32.toUInt16.toUInt32.toInt32) (cc2.toUInt32.toUInt16.toUInt32.toInt32)) (own_cs lb ((cc0 ^^^ dd0).toUInt32.toUInt16.toUInt32.toInt32) ((cc1 ^^^ dd1).toUInt32.toUInt16.toUInt32.toInt32) ((cc2 ^^^ dd2).toUInt32.toUInt16.toUInt32.toInt32))))), .val (.int (0 : Int32))]) rfl k) ?_
                      exact j245 (0 : Int32) (by unfold own_want; exact (if_neg (fun z => z.2.2.2.2.2.elim hc230 hc235)).symm)
                · refine Done.st (B := T63.setTop (mkF m 242 #[.val (.int x0), .val (.int x1), .val (.int x2), .val (.int x3), .val (.int x4), .val (.int x5), .val (.int i), .val (.int j), .val (.int la), .val (.int lb), .val (.int cc0), .val (.int cc1), .val (.int cc2), .val (.int dd0), .val (.int dd1), .val (.int dd2), .val (.int (0 : Int32)), .val (.ref s115), .val (.ref s140), .val (.ref b35), .val (.int (own_is ((own_kd i w_HEADER w_IDENTIFIER w_INTEGER w_STRING w_ALIAS w_PUNCTUATION w_BODY w_END w_ABORT w_EOF) = (own_kd j w_HEADER w_IDENTIFIER w_INTEGER w_STRING w_ALIAS w_PUNCTUATION w_BODY w_END w_ABORT w_EOF)) (own_seq (own_cs la (cc0.toUInt32.toUInt16.toUInt32.toInt32) (cc1.toUInt32.toUInt16.toUInt32.toInt32) (cc2.toUInt32.toUInt16.toUInt32.toInt32)) (own_cs lb ((cc0 ^^^ dd0).toUInt32.toUInt16.toUInt32.toInt32) ((cc1 ^^^ dd1).toUInt32.toUInt16.toUInt32.toInt32) ((cc2 ^^^ dd2).toUInt32.toUInt16.toUInt32.toInt32))))), .unset] [])) (fun _ k => XS.ifYes X63.here hx rfl (pc0 := 224) (pc' := 242) rfl (hb hby at_224) rfl ((if0 _ _).trans (feq hc224).2) (by decide) (by decide) k) ?_
                  refine Done.st (B := T63.setTop (mkF m 243 #[.val (.int x0), .val (.int x1), .val (.int x2), .val (.int x3), .val (.int x4), .val (.int x5), .val (.int i), .val (.int j), .val (.int la), .val (.int lb), .val (.int cc0), .val (.int cc1), .val (.int cc2), .val (.int dd0), .val (.int dd1), .val (.int dd2), .val (.int (0 : Int32)), .val (.ref s115), .val (.ref s140), .val (.ref b35), .val (.int (own_is ((own_kd i w_HEADER w_IDENTIFIER w_INTEGER w_STRING w_ALIAS w_PUNCTUATION w_BODY w_END w_ABORT w_EOF) = (own_kd j w_HEADER w_IDENTIFIER w_INTEGER w_STRING w_ALIAS w_PUNCTUATION w_BODY w_END w_ABORT w_EOF)) (own_seq (own_cs la (cc0.toUInt32.toUInt16.toUInt32.toInt32) (cc1.toUInt32.toUInt16.toUInt32.toInt32) (cc2.toUInt32.toUInt16.toUInt32.toInt32)) (own_cs lb ((cc0 ^^^ dd0).toUInt32.toUInt16.toUInt32.toInt32) ((cc1 ^^^ dd1).toUInt32.toUInt16.toUInt32.toInt32) ((cc2 ^^^ dd2).toUInt32.toUInt16.toUInt32.toInt32))))), .unset] [(.int (0 : Int32))])) (fun _ k => XS.iconst X63.here hx rfl (hb hby at_242) k) ?_
                  refine Done.st (B := T63.setTop (mkF m 245 #[.val (.int x0), .val (.int x1), .val (.int x2), .val (.int x3), .val (.int x4), .val (.int x5), .val (.int i), .val (.int j), .val (.int la), .val (.int lb), .val (.int cc0), .val (.int cc1), .val (.int cc2), .val (.int dd0), .val (.int dd1), .val (.int dd2), .val (.int (0 : Int32)), .val (.ref s115), .val (.ref s140), .val (.ref b35), .val (.int (own_is ((own_kd i w_HEADER w_IDENTIFIER w_INTEGER w_STRING w_ALIAS w_PUNCTUATION w_BODY w_END w_ABORT w_EOF) = (own_kd j w_HEADER w_IDENTIFIER w_INTEGER w_STRING w_ALIAS w_PUNCTUATION w_BODY w_END w_ABORT w_EOF)) (own_seq (own_cs la (cc0.toUInt32.toUInt16.toUInt32.toInt32) (cc1.toUInt32.toUInt16.toUInt32.toInt32) (cc2.toUInt32.toUInt16.toUInt32.toInt32)) (own_cs lb ((cc0 ^^^ dd0).toUInt32.toUInt16.toUInt32.toInt32) ((cc1 ^^^ dd1).toUInt32.toUInt16.toUInt32.toInt32) ((cc2 ^^^ dd2).toUInt32.toUInt16.toUInt32.toInt32))))), .val (.int (0 : Int32))] [])) (fun _ k => XS.istore X63.here hx rfl (hb hby at_243) rfl (l' := #[.val (.int x0), .val (.int x1), .val (.int x2), .val (.int x3), .val (.int x4), .val (.int x5), .val (.int i), .val (.int j), .val (.int la), .val (.int lb), .val (.int cc0), .val (.int cc1), .val (.int cc2), .val (.int dd0), .val (.int dd1), .val (.int dd2), .val (.int (0 : Int32)), .val (.ref s115), .val (.ref s140), .val (.ref b35), .val (.int (own_is ((own_kd i w_HEADER w_IDENTIFIER w_INTEGER w_STRING w_ALIAS w_PUNCTUATION w_BODY w_END w_ABORT w_EOF) = (own_kd j w_HEADER w_IDENTIFIER w_INTEGER w_STRING w_ALIAS w_PUNCTUATION w_BODY w_END w_ABORT w_EOF)) (own_seq (own_cs la (cc0.toUInt32.toUInt16.toUInt32.toInt32) (cc1.toUInt32.toUInt16.toUInt32.toInt32) (cc2.toUInt32.toUInt16.toUInt32.toInt32)) (own_cs lb ((cc0 ^^^ dd0).toUInt32.toUInt16.toUInt32.toInt32) ((cc1 ^^^ dd1).toUInt32.toUInt16.toUInt32.toInt32) ((cc2 ^^^ dd2).toUInt32.toUInt16.toUInt32.toInt32))))), .val (.int (0 : Int32))]) rfl k) ?_
                  exact j245 (0 : Int32) (by unfold own_want; exact (if_neg (fun z => z.2.2.2.2.1.elim hc219 hc224)).symm)
            · refine Done.st (B := T63.setTop (mkF m 242 #[.val (.int x0), .val (.int x1), .val (.int x2), .val (.int x3), .val (.int x4), .val (.int x5), .val (.int i), .val (.int j), .val (.int la), .val (.int lb), .val (.int cc0), .val (.int cc1), .val (.int cc2), .val (.int dd0), .val (.int dd1), .val (.int dd2), .val (.int (0 : Int32)), .val (.ref s115), .val (.ref s140), .val (.ref b35), .val (.int (own_is ((own_kd i w_HEADER w_IDENTIFIER w_INTEGER w_STRING w_ALIAS w_PUNCTUATION w_BODY w_END w_ABORT w_EOF) = (own_kd j w_HEADER w_IDENTIFIER w_INTEGER w_STRING w_ALIAS w_PUNCTUATION w_BODY w_END w_ABORT w_EOF)) (own_seq (own_cs la (cc0.toUInt32.toUInt16.toUInt32.toInt32) (cc1.toUInt32.toUInt16.toUInt32.toInt32) (cc2.toUInt32.toUInt16.toUInt32.toInt32)) (own_cs lb ((cc0 ^^^ dd0).toUInt32.toUInt16.toUInt32.toInt32) ((cc1 ^^^ dd1).toUInt32.toUInt16.toUInt32.toInt32) ((cc2 ^^^ dd2).toUInt32.toUInt16.toUInt32.toInt32))))), .unset] [])) (fun _ k => XS.ifYes X63.here hx rfl (pc0 := 213) (pc' := 242) rfl (hb hby at_213) rfl ((if0 _ _).trans (feq hc213).2) (by decide) (by decide) k) ?_
              refine Done.st (B := T63.setTop (mkF m 243 #[.val (.int x0), .val (.int x1), .val (.int x2), .val (.int x3), .val (.int x4), .val (.int x5), .val (.int i), .val (.int j), .val (.int la), .val (.int lb), .val (.int cc0), .val (.int cc1), .val (.int cc2), .val (.int dd0), .val (.int dd1), .val (.int dd2), .val (.int (0 : Int32)), .val (.ref s115), .val (.ref s140), .val (.ref b35), .val (.int (own_is ((own_kd i w_HEADER w_IDENTIFIER w_INTEGER w_STRING w_ALIAS w_PUNCTUATION w_BODY w_END w_ABORT w_EOF) = (own_kd j w_HEADER w_IDENTIFIER w_INTEGER w_STRING w_ALIAS w_PUNCTUATION w_BODY w_END w_ABORT w_EOF)) (own_seq (own_cs la (cc0.toUInt32.toUInt16.toUInt32.toInt32) (cc1.toUInt32.toUInt16.toUInt32.toInt32) (cc2.toUInt32.toUInt16.toUInt32.toInt32)) (own_cs lb ((cc0 ^^^ dd0).toUInt32.toUInt16.toUInt32.toInt32) ((cc1 ^^^ dd1).toUInt32.toUInt16.toUInt32.toInt32) ((cc2 ^^^ dd2).toUInt32.toUInt16.toUInt32.toInt32))))), .unset] [(.int (0 : Int32))])) (fun _ k => XS.iconst X63.here hx rfl (hb hby at_242) k) ?_
              refine Done.st (B := T63.setTop (mkF m 245 #[.val (.int x0), .val (.int x1), .val (.int x2), .val (.int x3), .val (.int x4), .val (.int x5), .val (.int i), .val (.int j), .val (.int la), .val (.int lb), .val (.int cc0), .val (.int cc1), .val (.int cc2), .val (.int dd0), .val (.int dd1), .val (.int dd2), .val (.int (0 : Int32)), .val (.ref s115), .val (.ref s140), .val (.ref b35), .val (.int (own_is ((own_kd i w_HEADER w_IDENTIFIER w_INTEGER w_STRING w_ALIAS w_PUNCTUATION w_BODY w_END w_ABORT w_EOF) = (own_kd j w_HEADER w_IDENTIFIER w_INTEGER w_STRING w_ALIAS w_PUNCTUATION w_BODY w_END w_ABORT w_EOF)) (own_seq (own_cs la (cc0.toUInt32.toUInt16.toUInt32.toInt32) (cc1.toUInt32.toUInt16.toUInt32.toInt32) (cc2.toUInt32.toUInt16.toUInt32.toInt32)) (own_cs lb ((cc0 ^^^ dd0).toUInt32.toUInt16.toUInt32.toInt32) ((cc1 ^^^ dd1).toUInt32.toUInt16.toUInt32.toInt32) ((cc2 ^^^ dd2).toUInt32.toUInt16.toUInt32.toInt32))))), .val (.int (0 : Int32))] [])) (fun _ k => XS.istore X63.here hx rfl (hb hby at_243) rfl (l' := #[.val (.int x0), .val (.int x1), .val (.int x2), .val (.int x3), .val (.int x4), .val (.int x5), .val (.int i), .val (.int j), .val (.int la), .val (.int lb), .val (.int cc0), .val (.int cc1), .val (.int cc2), .val (.int dd0), .val (.int dd1), .val (.int dd2), .val (.int (0 : Int32)), .val (.ref s115), .val (.ref s140), .val (.ref b35), .val (.int (own_is ((own_kd i w_HEADER w_IDENTIFIER w_INTEGER w_STRING w_ALIAS w_PUNCTUATION w_BODY w_END w_ABORT w_EOF) = (own_kd j w_HEADER w_IDENTIFIER w_INTEGER w_STRING w_ALIAS w_PUNCTUATION w_BODY w_END w_ABORT w_EOF)) (own_seq (own_cs la (cc0.toUInt32.toUInt16.toUInt32.toInt32) (cc1.toUInt32.toUInt16.toUInt32.toInt32) (cc2.toUInt32.toUInt16.toUInt32.toInt32)) (own_cs lb ((cc0 ^^^ dd0).toUInt32.toUInt16.toUInt32.toInt32) ((cc1 ^^^ dd1).toUInt32.toUInt16.toUInt32.toInt32) ((cc2 ^^^ dd2).toUInt32.toUInt16.toUInt32.toInt32))))), .val (.int (0 : Int32))]) rfl k) ?_
              exact j245 (0 : Int32) (by unfold own_want; exact (if_neg (fun z => z.2.2.2.1.elim hc208 hc213)).symm)
        · refine Done.st (B := T63.setTop (mkF m 242 #[.val (.int x0), .val (.int x1), .val (.int x2), .val (.int x3), .val (.int x4), .val (.int x5), .val (.int i), .val (.int j), .val (.int la), .val (.int lb), .val (.int cc0), .val (.int cc1), .val (.int cc2), .val (.int dd0), .val (.int dd1), .val (.int dd2), .val (.int (0 : Int32)), .val (.ref s115), .val (.ref s140), .val (.ref b35), .val (.int (own_is ((own_kd i w_HEADER w_IDENTIFIER w_INTEGER w_STRING w_ALIAS w_PUNCTUATION w_BODY w_END w_ABORT w_EOF) = (own_kd j w_HEADER w_IDENTIFIER w_INTEGER w_STRING w_ALIAS w_PUNCTUATION w_BODY w_END w_ABORT w_EOF)) (own_seq (own_cs la (cc0.toUInt32.toUInt16.toUInt32.toInt32) (cc1.toUInt32.toUInt16.toUInt32.toInt32) (cc2.toUInt32.toUInt16.toUInt32.toInt32)) (own_cs lb ((cc0 ^^^ dd0).toUInt32.toUInt16.toUInt32.toInt32) ((cc1 ^^^ dd1).toUInt32.toUInt16.toUInt32.toInt32) ((cc2 ^^^ dd2).toUInt32.toUInt16.toUInt32.toInt32))))), .unset] [])) (fun _ k => XS.icmpYes X63.here hx rfl (pc0 := 202) (pc' := 242) rfl (hb hby at_202) rfl (feq hc202).2 (by decide) (by decide) k) ?_
          refine Done.st (B := T63.setTop (mkF m 243 #[.val (.int x0), .val (.int x1), .val (.int x2), .val (.int x3), .val (.int x4), .val (.int x5), .val (.int i), .val (.int j), .val (.int la), .val (.int lb), .val (.int cc0), .val (.int cc1), .val (.int cc2), .val (.int dd0), .val (.int dd1), .val (.int dd2), .val (.int (0 : Int32)), .val (.ref s115), .val (.ref s140), .val (.ref b35), .val (.int (own_is ((own_kd i w_HEADER w_IDENTIFIER w_INTEGER w_STRING w_ALIAS w_PUNCTUATION w_BODY w_END w_ABORT w_EOF) = (own_kd j w_HEADER w_IDENTIFIER w_INTEGER w_STRING w_ALIAS w_PUNCTUATION w_BODY w_END w_ABORT w_EOF)) (own_seq (own_cs la (cc0.toUInt32.toUInt16.toUInt32.toInt32) (cc1.toUInt32.toUInt16.toUInt32.toInt32) (cc2.toUInt32.toUInt16.toUInt32.toInt32)) (own_cs lb ((cc0 ^^^ dd0).toUInt32.toUInt16.toUInt32.toInt32) ((cc1 ^^^ dd1).toUInt32.toUInt16.toUInt32.toInt32) ((cc2 ^^^ dd2).toUInt32.toUInt16.toUInt32.toInt32))))), .unset] [(.int (0 : Int32))])) (fun _ k => XS.iconst X63.here hx rfl (hb hby at_242) k) ?_
          refine Done.st (B := T63.setTop (mkF m 245 #[.val (.int x0), .val (.int x1), .val (.int x2), .val (.int x3), .val (.int x4), .val (.int x5), .val (.int i), .val (.int j), .val (.int la), .val (.int lb), .val (.int cc0), .val (.int cc1), .val (.int cc2), .val (.int dd0), .val (.int dd1), .val (.int dd2), .val (.int (0 : Int32)), .val (.ref s115), .val (.ref s140), .val (.ref b35), .val (.int (own_is ((own_kd i w_HEADER w_IDENTIFIER w_INTEGER w_STRING w_ALIAS w_PUNCTUATION w_BODY w_END w_ABORT w_EOF) = (own_kd j w_HEADER w_IDENTIFIER w_INTEGER w_STRING w_ALIAS w_PUNCTUATION w_BODY w_END w_ABORT w_EOF)) (own_seq (own_cs la (cc0.toUInt32.toUInt16.toUInt32.toInt32) (cc1.toUInt32.toUInt16.toUInt32.toInt32) (cc2.toUInt32.toUInt16.toUInt32.toInt32)) (own_cs lb ((cc0 ^^^ dd0).toUInt32.toUInt16.toUInt32.toInt32) ((cc1 ^^^ dd1).toUInt32.toUInt16.toUInt32.toInt32) ((cc2 ^^^ dd2).toUInt32.toUInt16.toUInt32.toInt32))))), .val (.int (0 : Int32))] [])) (fun _ k => XS.istore X63.here hx rfl (hb hby at_243) rfl (l' := #[.val (.int x0), .val (.int x1), .val (.int x2), .val (.int x3), .val (.int x4), .val (.int x5), .val (.int i), .val (.int j), .val (.int la), .val (.int lb), .val (.int cc0), .val (.int cc1), .val (.int cc2), .val (.int dd0), .val (.int dd1), .val (.int dd2), .val (.int (0 : Int32)), .val (.ref s115), .val (.ref s140), .val (.ref b35), .val (.int (own_is ((own_kd i w_HEADER w_IDENTIFIER w_INTEGER w_STRING w_ALIAS w_PUNCTUATION w_BODY w_END w_ABORT w_EOF) = (own_kd j w_HEADER w_IDENTIFIER w_INTEGER w_STRING w_ALIAS w_PUNCTUATION w_BODY w_END w_ABORT w_EOF)) (own_seq (own_cs la (cc0.toUInt32.toUInt16.toUInt32.toInt32) (cc1.toUInt32.toUInt16.toUInt32.toInt32) (cc2.toUInt32.toUInt16.toUInt32.toInt32)) (own_cs lb ((cc0 ^^^ dd0).toUInt32.toUInt16.toUInt32.toInt32) ((cc1 ^^^ dd1).toUInt32.toUInt16.toUInt32.toInt32) ((cc2 ^^^ dd2).toUInt32.toUInt16.toUInt32.toInt32))))), .val (.int (0 : Int32))]) rfl k) ?_
          exact j245 (0 : Int32) (by unfold own_want; exact (if_neg (fun z => hc202 z.2.2.1)).symm)
      · refine Done.st (B := T63.setTop (mkF m 242 #[.val (.int x0), .val (.int x1), .val (.int x2), .val (.int x3), .val (.int x4), .val (.int x5), .val (.int i), .val (.int j), .val (.int la), .val (.int lb), .val (.int cc0), .val (.int cc1), .val (.int cc2), .val (.int dd0), .val (.int dd1), .val (.int dd2), .val (.int (0 : Int32)), .val (.ref s115), .val (.ref s140), .val (.ref b35), .val (.int (own_is ((own_kd i w_HEADER w_IDENTIFIER w_INTEGER w_STRING w_ALIAS w_PUNCTUATION w_BODY w_END w_ABORT w_EOF) = (own_kd j w_HEADER w_IDENTIFIER w_INTEGER w_STRING w_ALIAS w_PUNCTUATION w_BODY w_END w_ABORT w_EOF)) (own_seq (own_cs la (cc0.toUInt32.toUInt16.toUInt32.toInt32) (cc1.toUInt32.toUInt16.toUInt32.toInt32) (cc2.toUInt32.toUInt16.toUInt32.toInt32)) (own_cs lb ((cc0 ^^^ dd0).toUInt32.toUInt16.toUInt32.toInt32) ((cc1 ^^^ dd1).toUInt32.toUInt16.toUInt32.toInt32) ((cc2 ^^^ dd2).toUInt32.toUInt16.toUInt32.toInt32))))), .unset] [])) (fun _ k => XS.icmpYes X63.here hx rfl (pc0 := 190) (pc' := 242) rfl (hb hby at_190) rfl (feq hc190).2 (by decide) (by decide) k) ?_
        refine Done.st (B := T63.setTop (mkF m 243 #[.val (.int x0), .val (.int x1), .val (.int x2), .val (.int x3), .val (.int x4), .val (.int x5), .val (.int i), .val (.int j), .val (.int la), .val (.int lb), .val (.int cc0), .val (.int cc1), .val (.int cc2), .val (.int dd0), .val (.int dd1), .val (.int dd2), .val (.int (0 : Int32)), .val (.ref s115), .val (.ref s140), .val (.ref b35), .val (.int (own_is ((own_kd i w_HEADER w_IDENTIFIER w_INTEGER w_STRING w_ALIAS w_PUNCTUATION w_BODY w_END w_ABORT w_EOF) = (own_kd j w_HEADER w_IDENTIFIER w_INTEGER w_STRING w_ALIAS w_PUNCTUATION w_BODY w_END w_ABORT w_EOF)) (own_seq (own_cs la (cc0.toUInt32.toUInt16.toUInt32.toInt32) (cc1.toUInt32.toUInt16.toUInt32.toInt32) (cc2.toUInt32.toUInt16.toUInt32.toInt32)) (own_cs lb ((cc0 ^^^ dd0).toUInt32.toUInt16.toUInt32.toInt32) ((cc1 ^^^ dd1).toUInt32.toUInt16.toUInt32.toInt32) ((cc2 ^^^ dd2).toUInt32.toUInt16.toUInt32.toInt32))))), .unset] [(.int (0 : Int32))])) (fun _ k => XS.iconst X63.here hx rfl (hb hby at_242) k) ?_
        refine Done.st (B := T63.setTop (mkF m 245 #[.val (.int x0), .val (.int x1), .val (.int x2), .val (.int x3), .val (.int x4), .val (.int x5), .val (.int i), .val (.int j), .val (.int la), .val (.int lb), .val (.int cc0), .val (.int cc1), .val (.int cc2), .val (.int dd0), .val (.int dd1), .val (.int dd2), .val (.int (0 : Int32)), .val (.ref s115), .val (.ref s140), .val (.ref b35), .val (.int (own_is ((own_kd i w_HEADER w_IDENTIFIER w_INTEGER w_STRING w_ALIAS w_PUNCTUATION w_BODY w_END w_ABORT w_EOF) = (own_kd j w_HEADER w_IDENTIFIER w_INTEGER w_STRING w_ALIAS w_PUNCTUATION w_BODY w_END w_ABORT w_EOF)) (own_seq (own_cs la (cc0.toUInt32.toUInt16.toUInt32.toInt32) (cc1.toUInt32.toUInt16.toUInt32.toInt32) (cc2.toUInt32.toUInt16.toUInt32.toInt32)) (own_cs lb ((cc0 ^^^ dd0).toUInt32.toUInt16.toUInt32.toInt32) ((cc1 ^^^ dd1).toUInt32.toUInt16.toUInt32.toInt32) ((cc2 ^^^ dd2).toUInt32.toUInt16.toUInt32.toInt32))))), .val (.int (0 : Int32))] [])) (fun _ k => XS.istore X63.here hx rfl (hb hby at_243) rfl (l' := #[.val (.int x0), .val (.int x1), .val (.int x2), .val (.int x3), .val (.int x4), .val (.int x5), .val (.int i), .val (.int j), .val (.int la), .val (.int lb), .val (.int cc0), .val (.int cc1), .val (.int cc2), .val (.int dd0), .val (.int dd1), .val (.int dd2), .val (.int (0 : Int32)), .val (.ref s115), .val (.ref s140), .val (.ref b35), .val (.int (own_is ((own_kd i w_HEADER w_IDENTIFIER w_INTEGER w_STRING w_ALIAS w_PUNCTUATION w_BODY w_END w_ABORT w_EOF) = (own_kd j w_HEADER w_IDENTIFIER w_INTEGER w_STRING w_ALIAS w_PUNCTUATION w_BODY w_END w_ABORT w_EOF)) (own_seq (own_cs la (cc0.toUInt32.toUInt16.toUInt32.toInt32) (cc1.toUInt32.toUInt16.toUInt32.toInt32) (cc2.toUInt32.toUInt16.toUInt32.toInt32)) (own_cs lb ((cc0 ^^^ dd0).toUInt32.toUInt16.toUInt32.toInt32) ((cc1 ^^^ dd1).toUInt32.toUInt16.toUInt32.toInt32) ((cc2 ^^^ dd2).toUInt32.toUInt16.toUInt32.toInt32))))), .val (.int (0 : Int32))]) rfl k) ?_
        exact j245 (0 : Int32) (by unfold own_want; exact (if_neg (fun z => hc190 z.1)).symm)
  refine Done.st (B := s₁.setTop (mkF m 87 #[.val (.int x0), .val (.int x1), .val (.int x2), .val (.int x3), .val (.int x4), .val (.int x5), .val (.int ((x2 &&& (2147483647 : Int32)) % (10 : Int32))), .val (.int ((x3 &&& (2147483647 : Int32)) % (10 : Int32))), .val (.int (x0 &&& (3 : Int32))), .val (.int (((x5.toUInt32 >>> ((1 : Int32) &&& 31).toUInt32).toInt32) &&& (3 : Int32))), .val (.int (((x0.toUInt32 >>> ((2 : Int32) &&& 31).toUInt32).toInt32) &&& (255 : Int32))), .val (.int (((x0.toUInt32 >>> ((10 : Int32) &&& 31).toUInt32).toInt32) &&& (255 : Int32))), .val (.int (((x0.toUInt32 >>> ((18 : Int32) &&& 31).toUInt32).toInt32) &&& (255 : Int32))), .val (.int (x1 &&& (255 : Int32))), .val (.int (((x1.toUInt32 >>> ((8 : Int32) &&& 31).toUInt32).toInt32) &&& (255 : Int32))), .val (.int (((x1.toUInt32 >>> ((16 : Int32) &&& 31).toUInt32).toInt32) &&& (255 : Int32))), .unset, .unset, .unset, .unset, .unset, .unset] [])) (fun _ k => XS.istore X0.here hx rfl (hb hby at_85) rfl (l' := #[.val (.int x0), .val (.int x1), .val (.int x2), .val (.int x3), .val (.int x4), .val (.int x5), .val (.int ((x2 &&& (2147483647 : Int32)) % (10 : Int32))), .val (.int ((x3 &&& (2147483647 : Int32)) % (10 : Int32))), .val (.int (x0 &&& (3 : Int32))), .val (.int (((x5.toUInt32 >>> ((1 : Int32) &&& 31).toUInt32).toInt32) &&& (3 : Int32))), .val (.int (((x0.toUInt32 >>> ((2 : Int32) &&& 31).toUInt32).toInt32) &&& (255 : Int32))), .val (.int (((x0.toUInt32 >>> ((10 : Int32) &&& 31).toUInt32).toInt32) &&& (255 : Int32))), .val (.int (((x0.toUInt32 >>> ((18 : Int32) &&& 31).toUInt32).toInt32) &&& (255 : Int32))), .val (.int (x1 &&& (255 : Int32))), .val (.int (((x1.toUInt32 >>> ((8 : Int32) &&& 31).toUInt32).toInt32) &&& (255 : Int32))), .val (.int (((x1.toUInt32 >>> ((16 : Int32) &&& 31).toUInt32).toInt32) &&& (255 : Int32))), .unset, .unset, .unset, .unset, .unset, .unset]) rfl k) ?_
  exact j87 ((x2 &&& (2147483647 : Int32)) % (10 : Int32)) ((x3 &&& (2147483647 : Int32)) % (10 : Int32)) (x0 &&& (3 : Int32)) (((x5.toUInt32 >>> ((1 : Int32) &&& 31).toUInt32).toInt32) &&& (3 : Int32)) (((x0.toUInt32 >>> ((2 : Int32) &&& 31).toUInt32).toInt32) &&& (255 : Int32)) (((x0.toUInt32 >>> ((10 : Int32) &&& 31).toUInt32).toInt32) &&& (255 : Int32)) (((x0.toUInt32 >>> ((18 : Int32) &&& 31).toUInt32).toInt32) &&& (255 : Int32)) (x1 &&& (255 : Int32)) (((x1.toUInt32 >>> ((8 : Int32) &&& 31).toUInt32).toInt32) &&& (255 : Int32)) (((x1.toUInt32 >>> ((16 : Int32) &&& 31).toUInt32).toInt32) &&& (255 : Int32)) (own_ten _) (own_ten _) (own_four _) (own_four _) (own_m8 _) (own_m8 _) (own_m8 _) (own_m8 _) (own_m8 _) (own_m8 _)
set_option maxRecDepth 65536 in
set_option maxHeartbeats 40000000 in
theorem comes_1 {Post : Tables → Env → Array Value → State → Outcome → State → Prop} (hpost : ∀ tb e args s v u, (limb_1_1.after args s (.returned v) u = true ∧ limb_1_2.after args s (.returned v) u = true ∧ True) → ReturnedEndW s (.returned v) u (Jvm.fieldLocs frame_1_writes args s ++ Jvm.arrayLocs frame_1_arrays args s ++ Jvm.staticLocs frame_1_statics s) 24 1152 → Post tb e args s (.returned v) u) :
    ArmFor flags0 classFile x code maxLocals ret World_1 tables_1 room_1 Calls_1 rest_1 Pre_1 Post := by
  intro l hfl _ _ p e ha hc hk s m args below hf hA hF happ hP
  obtain ⟨hcalls, hrest, hpre⟩ := hP
  obtain ⟨-, -, -, hnamed, -, -, -, hat⟩ := (Spec.applies_iff hf).mp happ
  obtain ⟨hg, hn⟩ := and_e (Cond.before_iff.mp (show (Jvm.Cond.and given_1 narrow_1).before args s = true from hpre))
  obtain ⟨g1, g2⟩ := and_e hg
  obtain ⟨g3, g4⟩ := and_e g2
  obtain ⟨g5, g6⟩ := and_e g4
  obtain ⟨g7, g8⟩ := and_e g6
  obtain ⟨g9, g10⟩ := and_e g8
  obtain ⟨g11, g12⟩ := and_e g10
  obtain ⟨w0, w1, w2, w3, w4, w5, rfl⟩ : ∃ w0 w1 w2 w3 w4 w5 : Value, args = #[w0, w1, w2, w3, w4, w5] := by
    have hs : args.size = 6 := by simpa [Cond.value, given_1] using g1
    obtain ⟨L⟩ := args
    match L, hs with
    | [w0, w1, w2, w3, w4, w5], _ => exact ⟨w0, w1, w2, w3, w4, w5, rfl⟩
  have hw := fun d (hd : d ∈ tables_1) => atoms_spec (ws := Jvm.Cond.code x code maxLocals ret :: tables_1) hat d (List.mem_cons_of_mem _ hd)
  have hfit : Fit s := fun {y c} hc i hi => by
    obtain ⟨ha, rfl⟩ := Array.getElem?_eq_some_iff.mp hc
    have q := List.all_eq_true.mp ((Array.all_eq_true_iff_forall_mem.mp hF) _ (Array.getElem_mem ha)) i (List.mem_range.mpr hi)
    simpa [Array.getElem?_eq_getElem hi] using q
  obtain ⟨hsets, hown0⟩ := atoms_of _ (rest_1_c_eq ▸ (show rest_1_c.before _ s = true from hrest))
  have hr0 := Cond.before_iff.mp hown0
  obtain ⟨i0, ei0⟩ := is_v g3
  obtain rfl : w0 = (.int i0) := Option.some.inj ei0
  obtain ⟨i1, ei1⟩ := is_v g5
  obtain rfl : w1 = (.int i1) := Option.some.inj ei1
  obtain ⟨i2, ei2⟩ := is_v g7
  obtain rfl : w2 = (.int i2) := Option.some.inj ei2
  obtain ⟨i3, ei3⟩ := is_v g9
  obtain rfl : w3 = (.int i3) := Option.some.inj ei3
  obtain ⟨i4, ei4⟩ := is_v g11
  obtain rfl : w4 = (.int i4) := Option.some.inj ei4
  obtain ⟨i5, ei5⟩ := is_v g12
  obtain rfl : w5 = (.int i5) := Option.some.inj ei5
  obtain ⟨na1, nb1⟩ := and_e hn
  obtain ⟨na2, nb2⟩ := and_e nb1
  obtain ⟨na3, nb3⟩ := and_e nb2
  obtain ⟨na4, nb4⟩ := and_e nb3
  obtain ⟨na5, nb5⟩ := and_e nb4
  obtain ⟨na6, nb6⟩ := and_e nb5
  obtain ⟨na7, nb7⟩ := and_e nb6
  obtain ⟨na8, nb8⟩ := and_e nb7
  obtain ⟨na9, nb9⟩ := and_e nb8
  obtain ⟨na10, nb10⟩ := and_e nb9
  obtain ⟨na11, nb11⟩ := and_e nb10
  obtain ⟨na12, nb12⟩ := and_e nb11
  obtain ⟨na13, nb13⟩ := and_e nb12
  obtain ⟨na14, nb14⟩ := and_e nb13
  obtain ⟨na15, nb15⟩ := and_e nb14
  obtain ⟨na16, nb16⟩ := and_e nb15
  obtain ⟨na17, nb17⟩ := and_e nb16
  obtain ⟨na18, nb18⟩ := and_e nb17
  obtain ⟨na19, nb19⟩ := and_e nb18
  obtain ⟨w_INTEGER, ev_INTEGER⟩ := exa_v na1
  have S_INTEGER := Sta.start ev_INTEGER (Or.inr ⟨(hw _ (List.mem_of_getElem? (i := 45) rfl)), (hw _ (List.mem_of_getElem? (i := 46) rfl))⟩)
  have E_INTEGER := Exa.start ev_INTEGER na1
  obtain ⟨w_IDENTIFIER, ev_IDENTIFIER⟩ := exa_v na2
  have S_IDENTIFIER := Sta.start ev_IDENTIFIER (Or.inr ⟨(hw _ (List.mem_of_getElem? (i := 45) rfl)), (hw _ (List.mem_of_getElem? (i := 58) rfl))⟩)
  have E_IDENTIFIER := Exa.start ev_IDENTIFIER na2
  obtain ⟨w_PUNCTUATION, ev_PUNCTUATION⟩ := exa_v na5
  have S_PUNCTUATION := Sta.start ev_PUNCTUATION (Or.inr ⟨(hw _ (List.mem_of_getElem? (i := 45) rfl)), (hw _ (List.mem_of_getElem? (i := 65) rfl))⟩)
  have E_PUNCTUATION := Exa.start ev_PUNCTUATION na5
  obtain ⟨w_END, ev_END⟩ := exa_v na6
  have S_END := Sta.start ev_END (Or.inr ⟨(hw _ (List.mem_of_getElem? (i := 45) rfl)), (hw _ (List.mem_of_getElem? (i := 67) rfl))⟩)
  have E_END := Exa.start ev_END na6
  obtain ⟨w_ALIAS, ev_ALIAS⟩ := exa_v na9
  have S_ALIAS := Sta.start ev_ALIAS (Or.inr ⟨(hw _ (List.mem_of_getElem? (i := 45) rfl)), (hw _ (List.mem_of_getElem? (i := 69) rfl))⟩)
  have E_ALIAS := Exa.start ev_ALIAS na9
  obtain ⟨w_BODY, ev_BODY⟩ := exa_v na11
  have S_BODY := Sta.start ev_BODY (Or.inr ⟨(hw _ (List.mem_of_getElem? (i := 45) rfl)), (hw _ (List.mem_of_getElem? (i := 71) rfl))⟩)
  have E_BODY := Exa.start ev_BODY na11
  obtain ⟨w_ABORT, ev_ABORT⟩ := exa_v na12
  have S_ABORT := Sta.start ev_ABORT (Or.inr ⟨(hw _ (List.mem_of_getElem? (i := 45) rfl)), (hw _ (List.mem_of_getElem? (i := 73) rfl))⟩)
  have E_ABORT := Exa.start ev_ABORT na12
  obtain ⟨w_HEADER, ev_HEADER⟩ := exa_v na15
  have S_HEADER := Sta.start ev_HEADER (Or.inr ⟨(hw _ (List.mem_of_getElem? (i := 45) rfl)), (hw _ (List.mem_of_getElem? (i := 75) rfl))⟩)
  have E_HEADER := Exa.start ev_HEADER na15
  obtain ⟨w_STRING, ev_STRING⟩ := exa_v na16
  have S_STRING := Sta.start ev_STRING (Or.inr ⟨(hw _ (List.mem_of_getElem? (i := 45) rfl)), (hw _ (List.mem_of_getElem? (i := 77) rfl))⟩)
  have E_STRING := Exa.start ev_STRING na16
  obtain ⟨w_EOF, ev_EOF⟩ := exa_v na19
  have S_EOF := Sta.start ev_EOF (Or.inr ⟨(hw _ (List.mem_of_getElem? (i := 45) rfl)), (hw _ (List.mem_of_getElem? (i := 89) rfl))⟩)
  have E_EOF := Exa.start ev_EOF na19
  have F_INTEGER_ordinal := Fld.start ((fld_at ev_INTEGER).symm.trans (own_eqv na3 (Term.int_eval _)))
  have F_IDENTIFIER_ordinal := Fld.start ((fld_at ev_IDENTIFIER).symm.trans (own_eqv na4 (Term.int_eval _)))
  have F_PUNCTUATION_ordinal := Fld.start ((fld_at ev_PUNCTUATION).symm.trans (own_eqv na7 (Term.int_eval _)))
  have F_END_ordinal := Fld.start ((fld_at ev_END).symm.trans (own_eqv na8 (Term.int_eval _)))
  have F_ALIAS_ordinal := Fld.start ((fld_at ev_ALIAS).symm.trans (own_eqv na10 (Term.int_eval _)))
  have F_BODY_ordinal := Fld.start ((fld_at ev_BODY).symm.trans (own_eqv na13 (Term.int_eval _)))
  have F_ABORT_ordinal := Fld.start ((fld_at ev_ABORT).symm.trans (own_eqv na14 (Term.int_eval _)))
  have F_HEADER_ordinal := Fld.start ((fld_at ev_HEADER).symm.trans (own_eqv na17 (Term.int_eval _)))
  have F_STRING_ordinal := Fld.start ((fld_at ev_STRING).symm.trans (own_eqv na18 (Term.int_eval _)))
  have F_EOF_ordinal := Fld.start ((fld_at ev_EOF).symm.trans (own_eqv nb19 (Term.int_eval _)))
  obtain ⟨z, ev_z⟩ := is_v (Cond.before_iff.mp (hsets _ (List.mem_of_getElem? (i := 1) rfl)))
  have S_z := Sta.start ev_z (Or.inl (hsets _ (List.mem_of_getElem? (i := 0) rfl)))
  have hcz := hsets _ (List.mem_of_getElem? (i := 2) rfl)
  have hz : ¬ z = 0 := fun q => by
    have h := not_v (Cond.before_iff.mp hcz)
    rw [eq_i ev_z (Term.int_eval (0)) (by rw [q])] at h
    cases h
  have hEL : EW s _ own_EL := EW.cons (hw _ (List.mem_of_getElem? (i := 19) rfl)) (by decide) EW.nil
  have hC0 : CHv s own_EL s.vm s.heap := CHv.start hEL (fun q hq => hcalls.1 q hq) hcz (hw _ (List.mem_of_getElem? (i := 20) rfl)) (hw _ (List.mem_of_getElem? (i := 6) rfl))
  obtain ⟨n, o, h1, h2, h3, _, L, rfl, ⟨rfl, N⟩, -, hq⟩ := rm0 l s _ hw tables_1 i0 i1 i2 i3 i4 i5 w_INTEGER w_IDENTIFIER w_PUNCTUATION w_END w_ALIAS w_BODY w_ABORT w_HEADER w_STRING w_EOF z s.heap s.heap.size (Nat.le_refl _) S_INTEGER E_INTEGER S_IDENTIFIER E_IDENTIFIER S_PUNCTUATION E_PUNCTUATION S_END E_END S_ALIAS E_ALIAS S_BODY E_BODY S_ABORT E_ABORT S_HEADER E_HEADER S_STRING E_STRING S_EOF E_EOF F_INTEGER_ordinal F_IDENTIFIER_ordinal F_PUNCTUATION_ordinal F_END_ordinal F_ALIAS_ordinal F_BODY_ordinal F_ABORT_ordinal F_HEADER_ordinal F_STRING_ordinal F_EOF_ordinal S_z hz p e ha hc hk s m _ below hf ((Spec.applies_iff_loose hf).mp happ).1 ⟨rfl, State.Warmed39.refl s, rfl, hC0⟩ trivial
  refine ⟨n, _, h1, h2, h3, hpost _ _ _ _ _ _ ⟨Cond.after_iff.mpr rfl, Cond.after_iff.mpr (eq_i res_at (Term.int_eval (1)) rfl), trivial⟩ ⟨hq.1, hq.2.1, hq.2.2.1, (hq.2.2.2.sift fun y hy => Or.inr (N y hy)).mono (by decide) (by decide)⟩⟩
theorem main_1_1 : Claimed_1_1 := comes_1 fun _ _ _ _ _ _ h hF => ⟨h.1, hF⟩
theorem main_1_2 : Claimed_1_2 := comes_1 fun _ _ _ _ _ _ h hF => ⟨h.2.1, hF⟩
end Jvm.Pilot.@@N@@
namespace Jvm.Pilot.@@N@@
open Jvm Jvm.ClassFile Sem Op Lib Jvm.Free Jvm.Stand Jvm.Pilot.@@N@@.Jvm.D
/-! MADE BY PROGRAM (witnessworld.py) out of the Statement's table words and the real class files: 22 classes; the members and pool entries that the words name. The judged class is class 1, her method 3. -/
namespace start1
open Jvm.ClassFile
def u (s : String) : CpInfo := .utf8 (stringToUtf16 s)
/-- a pool by its gaps: so many unusable entries, then the entry; so many at the end -/
def gap : Nat → List CpInfo → List CpInfo
  | 0, r => r
  | n + 1, r => .unusable :: gap n r
def poolList (es : List (Nat × CpInfo)) (last : Nat) : List CpInfo := es.foldr (fun e r => gap e.1 (e.2 :: r)) (gap last [])
def pool (es : List (Nat × CpInfo)) (last : Nat) : Array CpInfo := ⟨poolList es last⟩
def fileOf (pool : Array CpInfo) (this : Nat) (attrs : Array Attribute := #[]) (ms : Array MethodInfo := #[]) (fl : Nat := 33) (sup : Nat := 0) (ifs : Array Nat := #[]) (fds : Array FieldInfo := #[]) : ClassFile where
  minorVersion := 0
  majorVersion := 65
  constantPool := pool
  accessFlags := fl
  thisClass := this
  superClass := sup
  interfaces := ifs
  fields := fds
  methods := ms
  attributes := attrs
def plain (name : String) (sup : Option ClassId) : Class where
  name := name
  kind := .ordinary
  loader := none
  accessFlags := 33
  super := sup
  interfaces := #[]
  cf := none
  fields := #[]
  methods := #[]
  instanceTypes := #[]
  staticTypes := #[]
  resolved := #[]
  callSites := []
  init := .initialized
  statics := none
  mirror := none

def pool0 : Array CpInfo := pool [(5, u "<init>"), (0, u "()V"), (1, .class_ 10), (1, u "java/lang/Object")] 113

def k0c0 : Code := { maxStack := 0, maxLocals := 1, code := object_method_1_code, exceptionTable := #[], attributes := #[] }
def k0m0 : Method := { name := "<init>", desc := "()V", sig := { parameters := [], returnType := none }, accessFlags := 1, code := some k0c0 }
/-- java/lang/Object -/
def k0 : Class := { plain "java/lang/Object" none with
  accessFlags := 33
  interfaces := #[]
  cf := some (fileOf pool0 8 #[] #[{ accessFlags := 1, nameIndex := 5, descriptorIndex := 6, attributes := #[] }] 33 0 #[] #[])
  fields := #[]
  methods := #[k0m0]
  instanceTypes := #[]
  staticTypes := #[]
  resolved := Array.replicate 124 none
  statics := none }

def pool1 : Array CpInfo := pool [(2, .class_ 4), (1, u "java/lang/Object"), (0, u "<init>"), (0, u "()V"), (0, .fieldref 8 9), (0, .class_ 10), (0, .nameAndType 11 12), (0, u "com/example/libbuchi/libbuchi/automaton/HoaTokenizer$Kind"), (0, u "HEADER"), (0, u "Lcom/example/libbuchi/libbuchi/automaton/HoaTokenizer$Kind;"), (0, .fieldref 8 14), (0, .nameAndType 15 12), (0, u "IDENTIFIER"), (0, .fieldref 8 17), (0, .nameAndType 18 12), (0, u "INTEGER"), (0, .fieldref 8 20), (0, .nameAndType 21 12), (0, u "STRING"), (0, .fieldref 8 23), (0, .nameAndType 24 12), (0, u "ALIAS"), (0, .fieldref 8 26), (0, .nameAndType 27 12), (0, u "PUNCTUATION"), (0, .fieldref 8 29), (0, .nameAndType 30 12), (0, u "BODY"), (0, .fieldref 8 32), (0, .nameAndType 33 12), (0, u "END"), (0, .fieldref 8 35), (0, .nameAndType 36 12), (0, u "ABORT"), (0, .fieldref 8 38), (0, .nameAndType 39 12), (0, u "EOF"), (0, .class_ 41), (0, u "java/lang/String"), (0, .methodref 40 43), (0, .nameAndType 5 44), (0, u "([C)V"), (0, .integer 2147483647), (0, .methodref 47 48), (0, .class_ 49), (0, .nameAndType 50 51), (0, u "com/example/libbuchi/libbuchi/automaton/TokenIsPinLaw"), (0, u "build"), (0, u "(ICCC)Ljava/lang/String;"), (0, .class_ 53), (0, u "com/example/libbuchi/libbuchi/automaton/HoaTokenizer$Token"), (0, .methodref 47 55), (0, .nameAndType 56 57), (0, u "kindOf"), (0, u "(I)Lcom/example/libbuchi/libbuchi/automaton/HoaTokenizer$Kind;"), (0, .methodref 52 59), (0, .nameAndType 5 60), (0, u "(Lcom/example/libbuchi/libbuchi/automaton/HoaTokenizer$Kind;Ljava/lang/String;I)V"), (0, .methodref 52 62), (0, .nameAndType 63 64), (0, u "is"), (0, u "(Lcom/example/libbuchi/libbuchi/automaton/HoaTokenizer$Kind;Ljava/lang/String;)Z"), (3, u "law"), (0, u "(IIIIII)Z")] 7

def k1m0 : Method := { name := "<init>", desc := "()V", sig := { parameters := [], returnType := none }, accessFlags := 1, code := none }
def k1c1 : Code := { maxStack := 2, maxLocals := 1, code := method_2_code, exceptionTable := #[], attributes := #[] }
def k1m1 : Method := { name := "kindOf", desc := "(I)Lcom/example/libbuchi/libbuchi/automaton/HoaTokenizer$Kind;", sig := { parameters := [.int], returnType := some (.object "com/example/libbuchi/libbuchi/automaton/HoaTokenizer$Kind") }, accessFlags := 10, code := some k1c1 }
def k1c2 : Code := { maxStack := 6, maxLocals := 4, code := method_3_code, exceptionTable := #[], attributes := #[] }
def k1m2 : Method := { name := "build", desc := "(ICCC)Ljava/lang/String;", sig := { parameters := [.int, .char, .char, .char], returnType := some (.object "java/lang/String") }, accessFlags := 10, code := some k1c2 }
def k1c3 : Code := { maxStack := 5, maxLocals := 22, code := code, exceptionTable := #[], attributes := #[] }
def k1m3 : Method := { name := "law", desc := "(IIIIII)Z", sig := { parameters := [.int, .int, .int, .int, .int, .int], returnType := some .boolean }, accessFlags := 9, code := some k1c3 }
/-- com/example/libbuchi/libbuchi/automaton/TokenIsPinLaw -/
def k1 : Class := { plain "com/example/libbuchi/libbuchi/automaton/TokenIsPinLaw" (some 0) with
  accessFlags := 49
  interfaces := #[]
  cf := some (fileOf pool1 47 #[] #[{ accessFlags := 1, nameIndex := 5, descriptorIndex := 6, attributes := #[] }, { accessFlags := 10, nameIndex := 56, descriptorIndex := 57, attributes := #[] }, { accessFlags := 10, nameIndex := 50, descriptorIndex := 51, attributes := #[] }, { accessFlags := 9, nameIndex := 68, descriptorIndex := 69, attributes := #[] }] 49 2 #[] #[])
  fields := #[]
  methods := #[k1m0, k1m1, k1m2, k1m3]
  instanceTypes := #[]
  staticTypes := #[]
  resolved := Array.replicate 77 none
  statics := none }

def pool2 : Array CpInfo := pool [(1, .class_ 2), (0, u "java/io/Serializable"), (0, .class_ 4), (0, u "java/lang/Object")] 2

/-- java/io/Serializable -/
def k2 : Class := { plain "java/io/Serializable" (some 0) with
  accessFlags := 1537
  interfaces := #[]
  cf := some (fileOf pool2 1 #[] #[] 1537 3 #[] #[])
  fields := #[]
  methods := #[]
  instanceTypes := #[]
  staticTypes := #[]
  resolved := Array.replicate 7 none
  statics := none }

def pool3 : Array CpInfo := pool [(1, .class_ 2), (0, u "java/lang/Comparable"), (0, .class_ 4), (0, u "java/lang/Object")] 7

/-- java/lang/Comparable -/
def k3 : Class := { plain "java/lang/Comparable" (some 0) with
  accessFlags := 1537
  interfaces := #[]
  cf := some (fileOf pool3 1 #[] #[] 1537 3 #[] #[])
  fields := #[]
  methods := #[]
  instanceTypes := #[]
  staticTypes := #[]
  resolved := Array.replicate 12 none
  statics := none }

def pool4 : Array CpInfo := pool [(2, .class_ 4), (1, u "java/lang/CharSequence"), (42, .class_ 48), (0, u "java/lang/CharSequence$1CodePointIterator"), (10, .class_ 60), (0, u "java/lang/CharSequence$1CharIterator"), (5, .class_ 67), (0, u "java/lang/Object")] 63

/-- java/lang/CharSequence -/
def k4 : Class := { plain "java/lang/CharSequence" (some 0) with
  accessFlags := 1537
  interfaces := #[]
  cf := some (fileOf pool4 2 #[.nestMembers #[47, 59]] #[] 1537 66 #[] #[])
  fields := #[]
  methods := #[]
  instanceTypes := #[]
  staticTypes := #[]
  resolved := Array.replicate 131 none
  statics := none }

def pool5 : Array CpInfo := pool [(1, .class_ 2), (0, u "java/lang/constant/Constable"), (0, .class_ 4), (0, u "java/lang/Object")] 6

/-- java/lang/constant/Constable -/
def k5 : Class := { plain "java/lang/constant/Constable" (some 0) with
  accessFlags := 1537
  interfaces := #[]
  cf := some (fileOf pool5 1 #[] #[] 1537 3 #[] #[])
  fields := #[]
  methods := #[]
  instanceTypes := #[]
  staticTypes := #[]
  resolved := Array.replicate 11 none
  statics := none }

def pool6 : Array CpInfo := pool [(1, .class_ 2), (0, u "java/lang/constant/ConstantDesc"), (0, .class_ 4), (0, u "java/lang/Object")] 32

/-- java/lang/constant/ConstantDesc -/
def k6 : Class := { plain "java/lang/constant/ConstantDesc" (some 0) with
  accessFlags := 1537
  interfaces := #[]
  cf := some (fileOf pool6 1 #[] #[] 1537 3 #[] #[])
  fields := #[]
  methods := #[]
  instanceTypes := #[]
  staticTypes := #[]
  resolved := Array.replicate 37 none
  statics := none }

def pool7 : Array CpInfo := pool [(1, .methodref 2 3), (0, .class_ 4), (0, .nameAndType 5 6), (0, u "java/lang/Object"), (0, u "<init>"), (0, u "()V"), (0, .string 8), (0, u ""), (0, .fieldref 10 11), (0, .class_ 12), (0, .nameAndType 13 14), (0, u "java/lang/String"), (0, u "value"), (0, u "[B"), (0, .fieldref 10 16), (0, .nameAndType 17 18), (0, u "coder"), (0, u "B"), (2, u "hash"), (0, u "I"), (2, u "hashIsZero"), (0, u "Z"), (0, .methodref 10 28), (0, .nameAndType 5 29), (0, u "([CIILjava/lang/Void;)V"), (8, .fieldref 10 39), (0, .nameAndType 40 26), (0, u "COMPACT_STRINGS"), (1, .class_ 44), (1, u "java/lang/StringUTF16"), (0, u "compress"), (1, .methodref 42 48), (0, .nameAndType 49 50), (0, u "coderFromArrayLen"), (0, u "([BI)B"), (56, .class_ 109), (1, u "java/lang/StringLatin1"), (67, .methodref 42 178), (0, .nameAndType 45 179), (0, u "([CII)[B"), (361, .methodref 107 542), (0, .nameAndType 543 544), (0, u "equals"), (0, u "([B[B)Z"), (28, u "(Ljava/lang/Object;)Z"), (1, .class_ 576), (0, u "java/lang/CharSequence"), (22, u "CASE_INSENSITIVE_ORDER"), (0, u "Ljava/util/Comparator;"), (409, u "([C)V"), (90, u "serialPersistentFields"), (0, u "[Ljava/io/ObjectStreamField;"), (0, .class_ 1104), (0, u "java/lang/String$CaseInsensitiveComparator"), (1, .class_ 1107), (0, u "java/io/Serializable"), (0, .class_ 1109), (0, u "java/lang/Comparable"), (0, .class_ 1111), (0, u "java/lang/constant/Constable"), (0, .class_ 1113), (0, u "java/lang/constant/ConstantDesc"), (2, u "serialVersionUID"), (0, u "J"), (3, u "REPL"), (0, u "C"), (2, u "LATIN1"), (1, u "UTF16")] 323

def k7m0 : Method := { name := "<init>", desc := "()V", sig := { parameters := [], returnType := none }, accessFlags := 1, code := none }
def k7c1 : Code := { maxStack := 5, maxLocals := 2, code := jdk_42_method_3_code, exceptionTable := #[], attributes := #[] }
def k7m1 : Method := { name := "<init>", desc := "([C)V", sig := { parameters := [(.array .char)], returnType := none }, accessFlags := 1, code := some k7c1 }
def k7c2 : Code := { maxStack := 2, maxLocals := 3, code := jdk_42_method_66_code, exceptionTable := #[], attributes := #[] }
def k7m2 : Method := { name := "equals", desc := "(Ljava/lang/Object;)Z", sig := { parameters := [(.object "java/lang/Object")], returnType := some .boolean }, accessFlags := 1, code := some k7c2 }
def k7c3 : Code := { maxStack := 4, maxLocals := 6, code := jdk_42_method_149_code, exceptionTable := #[], attributes := #[] }
def k7m3 : Method := { name := "<init>", desc := "([CIILjava/lang/Void;)V", sig := { parameters := [(.array .char), .int, .int, (.object "java/lang/Void")], returnType := none }, accessFlags := 2, code := some k7c3 }
/-- java/lang/String -/
def k7 : Class := { plain "java/lang/String" (some 0) with
  accessFlags := 49
  interfaces := #[2, 3, 4, 5, 6]
  cf := some (fileOf pool7 10 #[.nestMembers #[1103]] #[{ accessFlags := 1, nameIndex := 5, descriptorIndex := 6, attributes := #[] }, { accessFlags := 1, nameIndex := 5, descriptorIndex := 1010, attributes := #[] }, { accessFlags := 1, nameIndex := 543, descriptorIndex := 573, attributes := #[] }, { accessFlags := 2, nameIndex := 5, descriptorIndex := 29, attributes := #[] }] 49 2 #[1106, 1108, 575, 1110, 1112] #[{ accessFlags := 18, nameIndex := 13, descriptorIndex := 14, attributes := #[] }, { accessFlags := 18, nameIndex := 17, descriptorIndex := 18, attributes := #[] }, { accessFlags := 2, nameIndex := 21, descriptorIndex := 22, attributes := #[] }, { accessFlags := 2, nameIndex := 25, descriptorIndex := 26, attributes := #[] }, { accessFlags := 26, nameIndex := 1116, descriptorIndex := 1117, attributes := #[] }, { accessFlags := 24, nameIndex := 40, descriptorIndex := 26, attributes := #[] }, { accessFlags := 26, nameIndex := 1101, descriptorIndex := 1102, attributes := #[] }, { accessFlags := 26, nameIndex := 1121, descriptorIndex := 1122, attributes := #[] }, { accessFlags := 25, nameIndex := 599, descriptorIndex := 600, attributes := #[] }, { accessFlags := 24, nameIndex := 1125, descriptorIndex := 18, attributes := #[] }, { accessFlags := 24, nameIndex := 1127, descriptorIndex := 18, attributes := #[] }])
  fields := #[{ name := "value", type := (.array .byte), accessFlags := 18, slot := 0, constantValue := 0 }, { name := "coder", type := .byte, accessFlags := 18, slot := 1, constantValue := 0 }, { name := "hash", type := .int, accessFlags := 2, slot := 2, constantValue := 0 }, { name := "hashIsZero", type := .boolean, accessFlags := 2, slot := 3, constantValue := 0 }, { name := "serialVersionUID", type := .long, accessFlags := 26, slot := 0, constantValue := 0 }, { name := "COMPACT_STRINGS", type := .boolean, accessFlags := 24, slot := 1, constantValue := 0 }, { name := "serialPersistentFields", type := (.array (.object "java/io/ObjectStreamField")), accessFlags := 26, slot := 2, constantValue := 0 }, { name := "REPL", type := .char, accessFlags := 26, slot := 3, constantValue := 0 }, { name := "CASE_INSENSITIVE_ORDER", type := (.object "java/util/Comparator"), accessFlags := 25, slot := 4, constantValue := 0 }, { name := "LATIN1", type := .byte, accessFlags := 24, slot := 5, constantValue := 0 }, { name := "UTF16", type := .byte, accessFlags := 24, slot := 6, constantValue := 0 }]
  methods := #[k7m0, k7m1, k7m2, k7m3]
  instanceTypes := #[(.array .byte), .byte, .int, .boolean]
  staticTypes := #[.long, .boolean, (.array (.object "java/io/ObjectStreamField")), .char, (.object "java/util/Comparator"), .byte, .byte]
  resolved := Array.replicate 1451 none
  statics := some 0 }

def pool8 : Array CpInfo := pool [(6, .class_ 8), (1, u "java/lang/Object"), (0, u "<init>"), (0, u "()V"), (1, .class_ 14), (1, u "java/lang/StringUTF16"), (31, u "$assertionsDisabled"), (0, u "Z"), (13, u "HI_BYTE_SHIFT"), (0, u "I"), (2, u "LO_BYTE_SHIFT"), (49, .methodref 12 116), (0, .nameAndType 117 118), (0, u "compress"), (0, u "([CI[BII)I"), (3, u "([CII)[B"), (138, u "coderFromArrayLen"), (0, u "([BI)B"), (106, .class_ 371), (1, u "java/lang/StringUTF16$LinesSpliterator"), (58, u "MAX_LENGTH"), (196, .class_ 628), (0, u "java/lang/StringUTF16$CodePointsSpliterator"), (0, .class_ 630), (0, u "java/lang/StringUTF16$CharsSpliterator")] 4

def k8m0 : Method := { name := "<init>", desc := "()V", sig := { parameters := [], returnType := none }, accessFlags := 0, code := none }
def k8c1 : Code := { maxStack := 2, maxLocals := 2, code := jdk_52_method_15_code, exceptionTable := #[], attributes := #[] }
def k8m1 : Method := { name := "coderFromArrayLen", desc := "([BI)B", sig := { parameters := [(.array .byte), .int], returnType := some .byte }, accessFlags := 8, code := some k8c1 }
def k8c2 : Code := { maxStack := 5, maxLocals := 6, code := jdk_52_method_16_code, exceptionTable := #[], attributes := #[] }
def k8m2 : Method := { name := "compress", desc := "([CII)[B", sig := { parameters := [(.array .char), .int, .int], returnType := some (.array .byte) }, accessFlags := 9, code := some k8c2 }
def k8c3 : Code := { maxStack := 3, maxLocals := 7, code := jdk_52_method_21_code, exceptionTable := #[], attributes := #[] }
def k8m3 : Method := { name := "compress", desc := "([CI[BII)I", sig := { parameters := [(.array .char), .int, (.array .byte), .int, .int], returnType := some .int }, accessFlags := 9, code := some k8c3 }
/-- java/lang/StringUTF16 -/
def k8 : Class := { plain "java/lang/StringUTF16" (some 0) with
  accessFlags := 48
  interfaces := #[]
  cf := some (fileOf pool8 12 #[.nestMembers #[627, 629, 369]] #[{ accessFlags := 0, nameIndex := 9, descriptorIndex := 10, attributes := #[] }, { accessFlags := 8, nameIndex := 261, descriptorIndex := 262, attributes := #[] }, { accessFlags := 9, nameIndex := 117, descriptorIndex := 122, attributes := #[] }, { accessFlags := 9, nameIndex := 117, descriptorIndex := 118, attributes := #[] }] 48 6 #[] #[{ accessFlags := 26, nameIndex := 61, descriptorIndex := 62, attributes := #[] }, { accessFlags := 26, nameIndex := 65, descriptorIndex := 62, attributes := #[] }, { accessFlags := 24, nameIndex := 430, descriptorIndex := 62, attributes := #[] }, { accessFlags := 4120, nameIndex := 46, descriptorIndex := 47, attributes := #[] }])
  fields := #[{ name := "HI_BYTE_SHIFT", type := .int, accessFlags := 26, slot := 0, constantValue := 0 }, { name := "LO_BYTE_SHIFT", type := .int, accessFlags := 26, slot := 1, constantValue := 0 }, { name := "MAX_LENGTH", type := .int, accessFlags := 24, slot := 2, constantValue := 0 }, { name := "$assertionsDisabled", type := .boolean, accessFlags := 4120, slot := 3, constantValue := 0 }]
  methods := #[k8m0, k8m1, k8m2, k8m3]
  instanceTypes := #[]
  staticTypes := #[.int, .int, .int, .boolean]
  resolved := Array.replicate 635 none
  statics := none }

def pool9 : Array CpInfo := pool [(1, .methodref 2 3), (0, .class_ 4), (0, .nameAndType 5 6), (0, u "java/lang/Object"), (0, u "<init>"), (0, u "()V"), (0, .fieldref 8 9), (0, .class_ 10), (0, .nameAndType 11 12), (0, u "com/example/libbuchi/libbuchi/automaton/HoaTokenizer$Token"), (0, u "kind"), (0, u "Lcom/example/libbuchi/libbuchi/automaton/HoaTokenizer$Kind;"), (0, .fieldref 8 14), (0, .nameAndType 15 16), (0, u "text"), (0, u "Ljava/lang/String;"), (0, .fieldref 8 18), (0, .nameAndType 19 20), (0, u "line"), (0, u "I"), (0, .methodref 22 23), (0, .class_ 24), (0, .nameAndType 25 26), (0, u "java/lang/String"), (0, u "equals"), (0, u "(Ljava/lang/Object;)Z"), (22, u "(Lcom/example/libbuchi/libbuchi/automaton/HoaTokenizer$Kind;Ljava/lang/String;I)V"), (4, u "is"), (0, u "(Lcom/example/libbuchi/libbuchi/automaton/HoaTokenizer$Kind;Ljava/lang/String;)Z"), (7, .class_ 64), (0, u "com/example/libbuchi/libbuchi/automaton/HoaTokenizer")] 19

def k9c0 : Code := { maxStack := 2, maxLocals := 4, code := prog_10_method_1_code, exceptionTable := #[], attributes := #[] }
def k9m0 : Method := { name := "<init>", desc := "(Lcom/example/libbuchi/libbuchi/automaton/HoaTokenizer$Kind;Ljava/lang/String;I)V", sig := { parameters := [(.object "com/example/libbuchi/libbuchi/automaton/HoaTokenizer$Kind"), (.object "java/lang/String"), .int], returnType := none }, accessFlags := 0, code := some k9c0 }
def k9c1 : Code := { maxStack := 2, maxLocals := 3, code := prog_10_method_5_code, exceptionTable := #[], attributes := #[] }
def k9m1 : Method := { name := "is", desc := "(Lcom/example/libbuchi/libbuchi/automaton/HoaTokenizer$Kind;Ljava/lang/String;)Z", sig := { parameters := [(.object "com/example/libbuchi/libbuchi/automaton/HoaTokenizer$Kind"), (.object "java/lang/String")], returnType := some .boolean }, accessFlags := 0, code := some k9c1 }
/-- com/example/libbuchi/libbuchi/automaton/HoaTokenizer$Token -/
def k9 : Class := { plain "com/example/libbuchi/libbuchi/automaton/HoaTokenizer$Token" (some 0) with
  accessFlags := 48
  interfaces := #[]
  cf := some (fileOf pool9 8 #[.nestHost 63] #[{ accessFlags := 0, nameIndex := 5, descriptorIndex := 49, attributes := #[] }, { accessFlags := 0, nameIndex := 54, descriptorIndex := 55, attributes := #[] }] 48 2 #[] #[{ accessFlags := 18, nameIndex := 11, descriptorIndex := 12, attributes := #[] }, { accessFlags := 18, nameIndex := 15, descriptorIndex := 16, attributes := #[] }, { accessFlags := 18, nameIndex := 19, descriptorIndex := 20, attributes := #[] }])
  fields := #[{ name := "kind", type := (.object "com/example/libbuchi/libbuchi/automaton/HoaTokenizer$Kind"), accessFlags := 18, slot := 0, constantValue := 0 }, { name := "text", type := (.object "java/lang/String"), accessFlags := 18, slot := 1, constantValue := 0 }, { name := "line", type := .int, accessFlags := 18, slot := 2, constantValue := 0 }]
  methods := #[k9m0, k9m1]
  instanceTypes := #[(.object "com/example/libbuchi/libbuchi/automaton/HoaTokenizer$Kind"), (.object "java/lang/String"), .int]
  staticTypes := #[]
  resolved := Array.replicate 84 none
  statics := none }

def pool10 : Array CpInfo := pool [(2, .class_ 4), (1, u "java/lang/Enum"), (0, u "name"), (0, u "Ljava/lang/String;"), (2, u "ordinal"), (0, u "I"), (1, .class_ 14), (1, u "java/lang/Object"), (4, u "hash"), (86, .class_ 108), (1, u "java/lang/Enum$EnumDesc"), (2, .class_ 112), (0, u "java/lang/constant/Constable"), (0, .class_ 114), (0, u "java/lang/Comparable"), (0, .class_ 116), (0, u "java/io/Serializable")] 87

/-- java/lang/Enum -/
def k10 : Class := { plain "java/lang/Enum" (some 0) with
  accessFlags := 1057
  interfaces := #[5, 3, 2]
  cf := some (fileOf pool10 2 #[.nestMembers #[106]] #[] 1057 12 #[111, 113, 115] #[{ accessFlags := 18, nameIndex := 5, descriptorIndex := 6, attributes := #[] }, { accessFlags := 18, nameIndex := 9, descriptorIndex := 10, attributes := #[] }, { accessFlags := 2, nameIndex := 19, descriptorIndex := 10, attributes := #[] }])
  fields := #[{ name := "name", type := (.object "java/lang/String"), accessFlags := 18, slot := 0, constantValue := 0 }, { name := "ordinal", type := .int, accessFlags := 18, slot := 1, constantValue := 0 }, { name := "hash", type := .int, accessFlags := 2, slot := 2, constantValue := 0 }]
  methods := #[]
  instanceTypes := #[(.object "java/lang/String"), .int, .int]
  staticTypes := #[]
  resolved := Array.replicate 204 none
  statics := none }

def pool11 : Array CpInfo := pool [(1, .class_ 2), (0, u "com/example/libbuchi/libbuchi/automaton/HoaTokenizer$Kind"), (2, u "HEADER"), (0, u "Lcom/example/libbuchi/libbuchi/automaton/HoaTokenizer$Kind;"), (2, u "IDENTIFIER"), (2, u "INTEGER"), (2, u "STRING"), (2, u "ALIAS"), (2, u "PUNCTUATION"), (2, u "BODY"), (2, u "END"), (2, u "ABORT"), (2, u "EOF"), (2, u "$VALUES"), (0, u "[Lcom/example/libbuchi/libbuchi/automaton/HoaTokenizer$Kind;"), (6, .class_ 46), (1, u "java/lang/Enum"), (33, .class_ 81), (0, u "com/example/libbuchi/libbuchi/automaton/HoaTokenizer")] 2

/-- com/example/libbuchi/libbuchi/automaton/HoaTokenizer$Kind -/
def k11 : Class := { plain "com/example/libbuchi/libbuchi/automaton/HoaTokenizer$Kind" (some 10) with
  accessFlags := 16432
  interfaces := #[]
  cf := some (fileOf pool11 1 #[.nestHost 80] #[] 16432 44 #[] #[{ accessFlags := 16409, nameIndex := 5, descriptorIndex := 6, attributes := #[] }, { accessFlags := 16409, nameIndex := 9, descriptorIndex := 6, attributes := #[] }, { accessFlags := 16409, nameIndex := 12, descriptorIndex := 6, attributes := #[] }, { accessFlags := 16409, nameIndex := 15, descriptorIndex := 6, attributes := #[] }, { accessFlags := 16409, nameIndex := 18, descriptorIndex := 6, attributes := #[] }, { accessFlags := 16409, nameIndex := 21, descriptorIndex := 6, attributes := #[] }, { accessFlags := 16409, nameIndex := 24, descriptorIndex := 6, attributes := #[] }, { accessFlags := 16409, nameIndex := 27, descriptorIndex := 6, attributes := #[] }, { accessFlags := 16409, nameIndex := 30, descriptorIndex := 6, attributes := #[] }, { accessFlags := 16409, nameIndex := 33, descriptorIndex := 6, attributes := #[] }, { accessFlags := 4122, nameIndex := 36, descriptorIndex := 37, attributes := #[] }])
  fields := #[{ name := "HEADER", type := (.object "com/example/libbuchi/libbuchi/automaton/HoaTokenizer$Kind"), accessFlags := 16409, slot := 0, constantValue := 0 }, { name := "IDENTIFIER", type := (.object "com/example/libbuchi/libbuchi/automaton/HoaTokenizer$Kind"), accessFlags := 16409, slot := 1, constantValue := 0 }, { name := "INTEGER", type := (.object "com/example/libbuchi/libbuchi/automaton/HoaTokenizer$Kind"), accessFlags := 16409, slot := 2, constantValue := 0 }, { name := "STRING", type := (.object "com/example/libbuchi/libbuchi/automaton/HoaTokenizer$Kind"), accessFlags := 16409, slot := 3, constantValue := 0 }, { name := "ALIAS", type := (.object "com/example/libbuchi/libbuchi/automaton/HoaTokenizer$Kind"), accessFlags := 16409, slot := 4, constantValue := 0 }, { name := "PUNCTUATION", type := (.object "com/example/libbuchi/libbuchi/automaton/HoaTokenizer$Kind"), accessFlags := 16409, slot := 5, constantValue := 0 }, { name := "BODY", type := (.object "com/example/libbuchi/libbuchi/automaton/HoaTokenizer$Kind"), accessFlags := 16409, slot := 6, constantValue := 0 }, { name := "END", type := (.object "com/example/libbuchi/libbuchi/automaton/HoaTokenizer$Kind"), accessFlags := 16409, slot := 7, constantValue := 0 }, { name := "ABORT", type := (.object "com/example/libbuchi/libbuchi/automaton/HoaTokenizer$Kind"), accessFlags := 16409, slot := 8, constantValue := 0 }, { name := "EOF", type := (.object "com/example/libbuchi/libbuchi/automaton/HoaTokenizer$Kind"), accessFlags := 16409, slot := 9, constantValue := 0 }, { name := "$VALUES", type := (.array (.object "com/example/libbuchi/libbuchi/automaton/HoaTokenizer$Kind")), accessFlags := 4122, slot := 10, constantValue := 0 }]
  methods := #[]
  instanceTypes := #[(.object "java/lang/String"), .int, .int]
  staticTypes := #[(.object "com/example/libbuchi/libbuchi/automaton/HoaTokenizer$Kind"), (.object "com/example/libbuchi/libbuchi/automaton/HoaTokenizer$Kind"), (.object "com/example/libbuchi/libbuchi/automaton/HoaTokenizer$Kind"), (.object "com/example/libbuchi/libbuchi/automaton/HoaTokenizer$Kind"), (.object "com/example/libbuchi/libbuchi/automaton/HoaTokenizer$Kind"), (.object "com/example/libbuchi/libbuchi/automaton/HoaTokenizer$Kind"), (.object "com/example/libbuchi/libbuchi/automaton/HoaTokenizer$Kind"), (.object "com/example/libbuchi/libbuchi/automaton/HoaTokenizer$Kind"), (.object "com/example/libbuchi/libbuchi/automaton/HoaTokenizer$Kind"), (.object "com/example/libbuchi/libbuchi/automaton/HoaTokenizer$Kind"), (.array (.object "com/example/libbuchi/libbuchi/automaton/HoaTokenizer$Kind"))]
  resolved := Array.replicate 84 none
  statics := some 1 }

def pool12 : Array CpInfo := pool [(4, .class_ 6), (1, u "java/lang/Object"), (0, u "<init>"), (0, u "()V"), (5, .class_ 16), (1, u "java/lang/StringLatin1"), (104, u "$assertionsDisabled"), (0, u "Z"), (98, .class_ 223), (1, u "java/lang/StringLatin1$LinesSpliterator"), (57, u "equals"), (0, u "([B[B)Z"), (107, .class_ 391), (0, u "java/lang/StringLatin1$CharsSpliterator")] 3

def k12m0 : Method := { name := "<init>", desc := "()V", sig := { parameters := [], returnType := none }, accessFlags := 0, code := none }
def k12c1 : Code := { maxStack := 3, maxLocals := 3, code := jdk_43_method_13_code, exceptionTable := #[], attributes := #[] }
def k12m1 : Method := { name := "equals", desc := "([B[B)Z", sig := { parameters := [(.array .byte), (.array .byte)], returnType := some .boolean }, accessFlags := 9, code := some k12c1 }
/-- java/lang/StringLatin1 -/
def k12 : Class := { plain "java/lang/StringLatin1" (some 0) with
  accessFlags := 48
  interfaces := #[]
  cf := some (fileOf pool12 14 #[.nestMembers #[390, 221]] #[{ accessFlags := 0, nameIndex := 7, descriptorIndex := 8, attributes := #[] }, { accessFlags := 9, nameIndex := 281, descriptorIndex := 282, attributes := #[] }] 48 4 #[] #[{ accessFlags := 4120, nameIndex := 121, descriptorIndex := 122, attributes := #[] }])
  fields := #[{ name := "$assertionsDisabled", type := .boolean, accessFlags := 4120, slot := 0, constantValue := 0 }]
  methods := #[k12m0, k12m1]
  instanceTypes := #[]
  staticTypes := #[.boolean]
  resolved := Array.replicate 395 none
  statics := none }

def pool13 : Array CpInfo := pool [(2, .class_ 4), (1, u "java/lang/Object"), (0, u "<init>"), (0, u "()V"), (17, .class_ 26), (1, u "jdk/internal/util/Preconditions"), (28, .class_ 56), (0, u "jdk/internal/util/Preconditions$4"), (57, .class_ 115), (0, u "jdk/internal/util/Preconditions$1"), (7, u "SIOOBE_FORMATTER"), (0, u "Ljava/util/function/BiFunction;"), (0, .class_ 126), (0, u "jdk/internal/util/Preconditions$2"), (3, u "AIOOBE_FORMATTER"), (0, .class_ 132), (0, u "jdk/internal/util/Preconditions$3"), (3, u "IOOBE_FORMATTER")] 57

def k13m0 : Method := { name := "<init>", desc := "()V", sig := { parameters := [], returnType := none }, accessFlags := 1, code := none }
/-- jdk/internal/util/Preconditions -/
def k13 : Class := { plain "jdk/internal/util/Preconditions" (some 0) with
  accessFlags := 33
  interfaces := #[]
  cf := some (fileOf pool13 24 #[.nestMembers #[55, 131, 125, 114]] #[{ accessFlags := 1, nameIndex := 5, descriptorIndex := 6, attributes := #[] }] 33 2 #[] #[{ accessFlags := 25, nameIndex := 123, descriptorIndex := 124, attributes := #[] }, { accessFlags := 25, nameIndex := 130, descriptorIndex := 124, attributes := #[] }, { accessFlags := 25, nameIndex := 136, descriptorIndex := 124, attributes := #[] }])
  fields := #[{ name := "SIOOBE_FORMATTER", type := (.object "java/util/function/BiFunction"), accessFlags := 25, slot := 0, constantValue := 0 }, { name := "AIOOBE_FORMATTER", type := (.object "java/util/function/BiFunction"), accessFlags := 25, slot := 1, constantValue := 0 }, { name := "IOOBE_FORMATTER", type := (.object "java/util/function/BiFunction"), accessFlags := 25, slot := 2, constantValue := 0 }]
  methods := #[k13m0]
  instanceTypes := #[]
  staticTypes := #[(.object "java/util/function/BiFunction"), (.object "java/util/function/BiFunction"), (.object "java/util/function/BiFunction")]
  resolved := Array.replicate 194 none
  statics := some 2 }

def pool14 : Array CpInfo := pool [(9, u "<init>"), (6, .class_ 18), (1, u "java/lang/Object"), (0, u "()V"), (1, .class_ 23), (1, u "jdk/internal/util/ArraysSupport"), (0, u "LOG2_ARRAY_LONG_INDEX_SCALE"), (0, u "I"), (2, u "U"), (0, u "Ljdk/internal/misc/Unsafe;"), (8, u "BIG_ENDIAN"), (0, u "Z"), (8, u "LOG2_BYTE_BIT_SIZE"), (4, u "LOG2_ARRAY_INT_INDEX_SCALE"), (54, u "JLA"), (0, u "Ljdk/internal/access/JavaLangAccess;"), (11, u "LOG2_ARRAY_BOOLEAN_INDEX_SCALE"), (9, u "LOG2_ARRAY_BYTE_INDEX_SCALE"), (5, u "LOG2_ARRAY_CHAR_INDEX_SCALE"), (5, u "LOG2_ARRAY_SHORT_INDEX_SCALE"), (18, u "LOG2_ARRAY_FLOAT_INDEX_SCALE"), (24, u "LOG2_ARRAY_DOUBLE_INDEX_SCALE"), (89, u "T_BOOLEAN"), (2, u "T_CHAR"), (1, u "T_FLOAT"), (1, u "T_DOUBLE"), (1, u "T_BYTE"), (1, u "T_SHORT"), (1, u "T_INT"), (1, u "T_LONG"), (1, u "SOFT_MAX_ARRAY_LENGTH")] 83

def k14m0 : Method := { name := "<init>", desc := "()V", sig := { parameters := [], returnType := none }, accessFlags := 2, code := none }
/-- jdk/internal/util/ArraysSupport -/
def k14 : Class := { plain "jdk/internal/util/ArraysSupport" (some 0) with
  accessFlags := 33
  interfaces := #[]
  cf := some (fileOf pool14 21 #[] #[{ accessFlags := 2, nameIndex := 9, descriptorIndex := 19, attributes := #[] }] 33 16 #[] #[{ accessFlags := 24, nameIndex := 28, descriptorIndex := 29, attributes := #[] }, { accessFlags := 26, nameIndex := 38, descriptorIndex := 39, attributes := #[] }, { accessFlags := 25, nameIndex := 121, descriptorIndex := 25, attributes := #[] }, { accessFlags := 25, nameIndex := 131, descriptorIndex := 25, attributes := #[] }, { accessFlags := 25, nameIndex := 137, descriptorIndex := 25, attributes := #[] }, { accessFlags := 25, nameIndex := 143, descriptorIndex := 25, attributes := #[] }, { accessFlags := 25, nameIndex := 53, descriptorIndex := 25, attributes := #[] }, { accessFlags := 25, nameIndex := 24, descriptorIndex := 25, attributes := #[] }, { accessFlags := 25, nameIndex := 162, descriptorIndex := 25, attributes := #[] }, { accessFlags := 25, nameIndex := 187, descriptorIndex := 25, attributes := #[] }, { accessFlags := 26, nameIndex := 48, descriptorIndex := 25, attributes := #[] }, { accessFlags := 25, nameIndex := 277, descriptorIndex := 25, attributes := #[] }, { accessFlags := 25, nameIndex := 280, descriptorIndex := 25, attributes := #[] }, { accessFlags := 25, nameIndex := 282, descriptorIndex := 25, attributes := #[] }, { accessFlags := 25, nameIndex := 284, descriptorIndex := 25, attributes := #[] }, { accessFlags := 25, nameIndex := 286, descriptorIndex := 25, attributes := #[] }, { accessFlags := 25, nameIndex := 288, descriptorIndex := 25, attributes := #[] }, { accessFlags := 25, nameIndex := 290, descriptorIndex := 25, attributes := #[] }, { accessFlags := 25, nameIndex := 292, descriptorIndex := 25, attributes := #[] }, { accessFlags := 26, nameIndex := 108, descriptorIndex := 109, attributes := #[] }, { accessFlags := 25, nameIndex := 294, descriptorIndex := 25, attributes := #[] }])
  fields := #[{ name := "U", type := (.object "jdk/internal/misc/Unsafe"), accessFlags := 24, slot := 0, constantValue := 0 }, { name := "BIG_ENDIAN", type := .boolean, accessFlags := 26, slot := 1, constantValue := 0 }, { name := "LOG2_ARRAY_BOOLEAN_INDEX_SCALE", type := .int, accessFlags := 25, slot := 2, constantValue := 0 }, { name := "LOG2_ARRAY_BYTE_INDEX_SCALE", type := .int, accessFlags := 25, slot := 3, constantValue := 0 }, { name := "LOG2_ARRAY_CHAR_INDEX_SCALE", type := .int, accessFlags := 25, slot := 4, constantValue := 0 }, { name := "LOG2_ARRAY_SHORT_INDEX_SCALE", type := .int, accessFlags := 25, slot := 5, constantValue := 0 }, { name := "LOG2_ARRAY_INT_INDEX_SCALE", type := .int, accessFlags := 25, slot := 6, constantValue := 0 }, { name := "LOG2_ARRAY_LONG_INDEX_SCALE", type := .int, accessFlags := 25, slot := 7, constantValue := 0 }, { name := "LOG2_ARRAY_FLOAT_INDEX_SCALE", type := .int, accessFlags := 25, slot := 8, constantValue := 0 }, { name := "LOG2_ARRAY_DOUBLE_INDEX_SCALE", type := .int, accessFlags := 25, slot := 9, constantValue := 0 }, { name := "LOG2_BYTE_BIT_SIZE", type := .int, accessFlags := 26, slot := 10, constantValue := 0 }, { name := "T_BOOLEAN", type := .int, accessFlags := 25, slot := 11, constantValue := 0 }, { name := "T_CHAR", type := .int, accessFlags := 25, slot := 12, constantValue := 0 }, { name := "T_FLOAT", type := .int, accessFlags := 25, slot := 13, constantValue := 0 }, { name := "T_DOUBLE", type := .int, accessFlags := 25, slot := 14, constantValue := 0 }, { name := "T_BYTE", type := .int, accessFlags := 25, slot := 15, constantValue := 0 }, { name := "T_SHORT", type := .int, accessFlags := 25, slot := 16, constantValue := 0 }, { name := "T_INT", type := .int, accessFlags := 25, slot := 17, constantValue := 0 }, { name := "T_LONG", type := .int, accessFlags := 25, slot := 18, constantValue := 0 }, { name := "JLA", type := (.object "jdk/internal/access/JavaLangAccess"), accessFlags := 26, slot := 19, constantValue := 0 }, { name := "SOFT_MAX_ARRAY_LENGTH", type := .int, accessFlags := 25, slot := 20, constantValue := 0 }]
  methods := #[k14m0]
  instanceTypes := #[]
  staticTypes := #[(.object "jdk/internal/misc/Unsafe"), .boolean, .int, .int, .int, .int, .int, .int, .int, .int, .int, .int, .int, .int, .int, .int, .int, .int, .int, (.object "jdk/internal/access/JavaLangAccess"), .int]
  resolved := Array.replicate 378 none
  statics := none }

def pool15 : Array CpInfo := pool [(1, u "java/lang/Cloneable"), (0, .class_ 1), (0, u "java/lang/Object"), (0, .class_ 3)] 3

/-- java/lang/Cloneable -/
def k15 : Class := { plain "java/lang/Cloneable" (some 0) with
  accessFlags := 1537
  interfaces := #[]
  cf := some (fileOf pool15 2 #[] #[] 1537 4 #[] #[])
  fields := #[]
  methods := #[]
  instanceTypes := #[]
  staticTypes := #[]
  resolved := Array.replicate 8 none
  statics := none }

/-- the primitive byte -/
def k16 : Class := { plain "byte" none with kind := .primitive 'B', accessFlags := 0x411 }
/-- [B -/
def k17 : Class := { plain "[B" (some 0) with kind := .array 16 .byte, interfaces := #[15, 2], accessFlags := 1041 }

/-- the primitive char -/
def k18 : Class := { plain "char" none with kind := .primitive 'C', accessFlags := 0x411 }
/-- [C -/
def k19 : Class := { plain "[C" (some 0) with kind := .array 18 .char, interfaces := #[15, 2], accessFlags := 1041 }

/-- the primitive int -/
def k20 : Class := { plain "int" none with kind := .primitive 'I', accessFlags := 0x411 }
/-- [I -/
def k21 : Class := { plain "[I" (some 0) with kind := .array 20 .int, interfaces := #[15, 2], accessFlags := 1041 }

def heap : Heap := #[{ cls := 7, slots := #[.long 0, .int 1, .null, .int 0, .null, .int 0, .int 0], vm := .statics 7 },
  { cls := 11, slots := #[.ref 10, .ref 4, .ref 3, .ref 11, .ref 7, .ref 5, .ref 8, .ref 6, .ref 9, .ref 12, .null], vm := .statics 11 },
  { cls := 13, slots := #[.null, .null, .null], vm := .statics 13 },
  { cls := 11, slots := #[.null, .int 2, .int 0], vm := .none },
  { cls := 11, slots := #[.null, .int 1, .int 0], vm := .none },
  { cls := 11, slots := #[.null, .int 5, .int 0], vm := .none },
  { cls := 11, slots := #[.null, .int 7, .int 0], vm := .none },
  { cls := 11, slots := #[.null, .int 4, .int 0], vm := .none },
  { cls := 11, slots := #[.null, .int 6, .int 0], vm := .none },
  { cls := 11, slots := #[.null, .int 8, .int 0], vm := .none },
  { cls := 11, slots := #[.null, .int 0, .int 0], vm := .none },
  { cls := 11, slots := #[.null, .int 3, .int 0], vm := .none },
  { cls := 11, slots := #[.null, .int 9, .int 0], vm := .none }]
def classes : Array Class := #[k0, k1, k2, k3, k4, k5, k6, k7, k8, k9, k10, k11, k12, k13, k14, k15, k16, k17, k18, k19, k20, k21]
def interned : List (Array UInt16 × Addr) := []
def slotsUsed : Nat := 51
def theMethod : MethodId := ⟨1, 3⟩
def args0 : Array Value := #[.int 5, .int 1, .int 2, .int 3, .int 4, .int 7]
def aboutOver (below : List Frame) : State where
  vm := { classes := classes, interned := interned.toArray }
  heap := heap
  slotsUsed := slotsUsed
  threads := #[{ frames := .invoking theMethod args0 :: below }]
def below0 : List Frame := [.native { method := ⟨0, 0⟩, args := #[] }]
def about1 : State := aboutOver below0
def p0 : Program := .bare "" "" ""
def e0 : Env := launch0.env 0 0 0
theorem w_frames : about1.frames = Frame.invoking theMethod args0 :: below0 := rfl
set_option maxRecDepth 65536 in
theorem w_args : argsFit about1.vm theMethod args0 = true := by decide +kernel
set_option maxRecDepth 65536 in
theorem w_heap : heapFits about1 = true := by decide +kernel
set_option maxRecDepth 65536 in
theorem w_runnable : about1.curStatus? = some .runnable := by decide +kernel
set_option maxRecDepth 65536 in
theorem w_alone : about1.alone = true := by decide +kernel
set_option maxRecDepth 65536 in
theorem w_named : about1.methodNamed? x = some theMethod := by decide +kernel
set_option maxRecDepth 65536 in
theorem w_hears : about1.hears theMethod below0 = true := by decide +kernel
set_option maxRecDepth 65536 in
theorem w_ripe : about1.ripe theMethod args0 below0 = true := by decide +kernel
theorem w_running : about1.status = .running := rfl
set_option maxRecDepth 65536 in
theorem w_room : about1.hasRoom e0.platform room_1 = true :=
  launch0.hasRoom_least _ room_1 (by decide +kernel) (by decide +kernel) (by decide +kernel) (by decide +kernel) (by decide +kernel) (by decide +kernel)
theorem allAtoms_all (ts : List Jvm.Cond) (a : Array Jvm.Value) (st : Jvm.State) : (allAtoms ts).before a st = ts.all (fun c => c.before a st) := by
  induction ts with
  | nil => rfl
  | cons c t ih =>
    show (Jvm.Cond.and c (allAtoms t)).before a st = _
    rw [Jvm.Cond.before_and, ih, List.all_cons]
def words1 : List Jvm.Cond := Jvm.Cond.code x code maxLocals ret :: tables_1
/-- a 'code' word, met by the world's own term for the bytes: nothing is compared byte by byte -/
theorem code_word {y : MethodName} {bytes : ByteArray} {mx : Nat} {rt : Option FieldType} {a : Array Value} {s : State} {m : MethodId} {meth : Method} {c : Code} (h1 : s.methodNamed? y = some m) (h2 : s.vm.method? m = some meth) (h3 : meth.code = some c) (h4 : c.code = bytes)
    (h5 : (c.maxLocals == mx && c.exceptionTable.isEmpty && decide (c.maxStack ≤ mostOperands) && decide (meth.sig.returnType = rt) && !meth.locks && decide (parseMethodDescriptor y.desc = some meth.sig)) = true) : (Jvm.Cond.code y bytes mx rt).before a s = true := by
  simp only [Bool.and_eq_true, beq_iff_eq, Bool.not_eq_true', decide_eq_true_eq] at h5
  obtain ⟨⟨⟨⟨⟨g1, g2⟩, g3⟩, g4⟩, g5⟩, g6⟩ := h5
  simp [Cond.before, Cond.holds, Cond.value, h1, h2, h3, h4, g1, g2, g3, g4, g5, g6]
def isCode : Jvm.Cond → Bool
  | .code _ _ _ _ => true
  | _ => false
theorem all_split {L : List Jvm.Cond} {P : Jvm.Cond → Bool} (h1 : L.all (fun c => isCode c || P c) = true) (h2 : ∀ c ∈ L.filter isCode, P c = true) : L.all P = true := by
  refine List.all_eq_true.mpr fun c hc => ?_
  have h := List.all_eq_true.mp h1 c hc
  rcases Bool.eq_false_or_eq_true (isCode c) with hi | hi
  · exact h2 c (List.mem_filter.mpr ⟨hc, hi⟩)
  · simpa [hi] using h
set_option maxRecDepth 65536 in
theorem w_c0 : (Jvm.Cond.code x code maxLocals ret).before args0 about1 = true := code_word (m := ⟨1, 3⟩) (meth := k1m3) (c := k1c3) (by decide +kernel) rfl rfl rfl (by decide +kernel)
set_option maxRecDepth 65536 in
theorem w_c1 : (Jvm.Cond.code ({ cls := "com/example/libbuchi/libbuchi/automaton/TokenIsPinLaw", name := "build", desc := "(ICCC)Ljava/lang/String;" } : Jvm.MethodName) method_3_code (4 : Nat) (Option.some (Jvm.ClassFile.FieldType.object "java/lang/String"))).before args0 about1 = true := code_word (m := ⟨1, 2⟩) (meth := k1m2) (c := k1c2) (by decide +kernel) rfl rfl rfl (by decide +kernel)
set_option maxRecDepth 65536 in
theorem w_c2 : (Jvm.Cond.code ({ cls := "java/lang/String", name := "<init>", desc := "([C)V" } : Jvm.MethodName) jdk_42_method_3_code (2 : Nat) (Option.none : Option Jvm.ClassFile.FieldType)).before args0 about1 = true := code_word (m := ⟨7, 1⟩) (meth := k7m1) (c := k7c1) (by decide +kernel) rfl rfl rfl (by decide +kernel)
set_option maxRecDepth 65536 in
theorem w_c3 : (Jvm.Cond.code ({ cls := "java/lang/String", name := "<init>", desc := "([CIILjava/lang/Void;)V" } : Jvm.MethodName) jdk_42_method_149_code (6 : Nat) (Option.none : Option Jvm.ClassFile.FieldType)).before args0 about1 = true := code_word (m := ⟨7, 3⟩) (meth := k7m3) (c := k7c3) (by decide +kernel) rfl rfl rfl (by decide +kernel)
set_option maxRecDepth 65536 in
theorem w_c4 : (Jvm.Cond.code ({ cls := "java/lang/Object", name := "<init>", desc := "()V" } : Jvm.MethodName) object_method_1_code (1 : Nat) (Option.none : Option Jvm.ClassFile.FieldType)).before args0 about1 = true := code_word (m := ⟨0, 0⟩) (meth := k0m0) (c := k0c0) (by decide +kernel) rfl rfl rfl (by decide +kernel)
set_option maxRecDepth 65536 in
theorem w_c5 : (Jvm.Cond.code ({ cls := "java/lang/StringUTF16", name := "compress", desc := "([CII)[B" } : Jvm.MethodName) jdk_52_method_16_code (6 : Nat) (Option.some (Jvm.ClassFile.FieldType.array Jvm.ClassFile.FieldType.byte))).before args0 about1 = true := code_word (m := ⟨8, 2⟩) (meth := k8m2) (c := k8c2) (by decide +kernel) rfl rfl rfl (by decide +kernel)
set_option maxRecDepth 65536 in
theorem w_c6 : (Jvm.Cond.code ({ cls := "java/lang/StringUTF16", name := "compress", desc := "([CI[BII)I" } : Jvm.MethodName) jdk_52_method_21_code (7 : Nat) (Option.some Jvm.ClassFile.FieldType.int)).before args0 about1 = true := code_word (m := ⟨8, 3⟩) (meth := k8m3) (c := k8c3) (by decide +kernel) rfl rfl rfl (by decide +kernel)
set_option maxRecDepth 65536 in
theorem w_c7 : (Jvm.Cond.code ({ cls := "java/lang/StringUTF16", name := "coderFromArrayLen", desc := "([BI)B" } : Jvm.MethodName) jdk_52_method_15_code (2 : Nat) (Option.some Jvm.ClassFile.FieldType.byte)).before args0 about1 = true := code_word (m := ⟨8, 1⟩) (meth := k8m1) (c := k8c1) (by decide +kernel) rfl rfl rfl (by decide +kernel)
set_option maxRecDepth 65536 in
theorem w_c8 : (Jvm.Cond.code ({ cls := "com/example/libbuchi/libbuchi/automaton/TokenIsPinLaw", name := "kindOf", desc := "(I)Lcom/example/libbuchi/libbuchi/automaton/HoaTokenizer$Kind;" } : Jvm.MethodName) method_2_code (1 : Nat) (Option.some (Jvm.ClassFile.FieldType.object "com/example/libbuchi/libbuchi/automaton/HoaTokenizer$Kind"))).before args0 about1 = true := code_word (m := ⟨1, 1⟩) (meth := k1m1) (c := k1c1) (by decide +kernel) rfl rfl rfl (by decide +kernel)
set_option maxRecDepth 65536 in
theorem w_c9 : (Jvm.Cond.code ({ cls := "com/example/libbuchi/libbuchi/automaton/HoaTokenizer$Token", name := "<init>", desc := "(Lcom/example/libbuchi/libbuchi/automaton/HoaTokenizer$Kind;Ljava/lang/String;I)V" } : Jvm.MethodName) prog_10_method_1_code (4 : Nat) (Option.none : Option Jvm.ClassFile.FieldType)).before args0 about1 = true := code_word (m := ⟨9, 0⟩) (meth := k9m0) (c := k9c0) (by decide +kernel) rfl rfl rfl (by decide +kernel)
set_option maxRecDepth 65536 in
theorem w_c10 : (Jvm.Cond.code ({ cls := "com/example/libbuchi/libbuchi/automaton/HoaTokenizer$Token", name := "is", desc := "(Lcom/example/libbuchi/libbuchi/automaton/HoaTokenizer$Kind;Ljava/lang/String;)Z" } : Jvm.MethodName) prog_10_method_5_code (3 : Nat) (Option.some Jvm.ClassFile.FieldType.boolean)).before args0 about1 = true := code_word (m := ⟨9, 1⟩) (meth := k9m1) (c := k9c1) (by decide +kernel) rfl rfl rfl (by decide +kernel)
set_option maxRecDepth 65536 in
theorem w_c11 : (Jvm.Cond.code ({ cls := "java/lang/String", name := "equals", desc := "(Ljava/lang/Object;)Z" } : Jvm.MethodName) jdk_42_method_66_code (3 : Nat) (Option.some Jvm.ClassFile.FieldType.boolean)).before args0 about1 = true := code_word (m := ⟨7, 2⟩) (meth := k7m2) (c := k7c2) (by decide +kernel) rfl rfl rfl (by decide +kernel)
set_option maxRecDepth 65536 in
theorem w_c12 : (Jvm.Cond.code ({ cls := "java/lang/StringLatin1", name := "equals", desc := "([B[B)Z" } : Jvm.MethodName) jdk_43_method_13_code (3 : Nat) (Option.some Jvm.ClassFile.FieldType.boolean)).before args0 about1 = true := code_word (m := ⟨12, 1⟩) (meth := k12m1) (c := k12c1) (by decide +kernel) rfl rfl rfl (by decide +kernel)
def codes1 : List Jvm.Cond := [Jvm.Cond.code x code maxLocals ret, Jvm.Cond.code ({ cls := "com/example/libbuchi/libbuchi/automaton/TokenIsPinLaw", name := "build", desc := "(ICCC)Ljava/lang/String;" } : Jvm.MethodName) method_3_code (4 : Nat) (Option.some (Jvm.ClassFile.FieldType.object "java/lang/String")), Jvm.Cond.code ({ cls := "java/lang/String", name := "<init>", desc := "([C)V" } : Jvm.MethodName) jdk_42_method_3_code (2 : Nat) (Option.none : Option Jvm.ClassFile.FieldType), Jvm.Cond.code ({ cls := "java/lang/String", name := "<init>", desc := "([CIILjava/lang/Void;)V" } : Jvm.MethodName) jdk_42_method_149_code (6 : Nat) (Option.none : Option Jvm.ClassFile.FieldType), Jvm.Cond.code ({ cls := "java/lang/Object", name := "<init>", desc := "()V" } : Jvm.MethodName) object_method_1_code (1 : Nat) (Option.none : Option Jvm.ClassFile.FieldType), Jvm.Cond.code ({ cls := "java/lang/StringUTF16", name := "compress", desc := "([CII)[B" } : Jvm.MethodName) jdk_52_method_16_code (6 : Nat) (Option.some (Jvm.ClassFile.FieldType.array Jvm.ClassFile.FieldType.byte)), Jvm.Cond.code ({ cls := "java/lang/StringUTF16", name := "compress", desc := "([CI[BII)I" } : Jvm.MethodName) jdk_52_method_21_code (7 : Nat) (Option.some Jvm.ClassFile.FieldType.int), Jvm.Cond.code ({ cls := "java/lang/StringUTF16", name := "coderFromArrayLen", desc := "([BI)B" } : Jvm.MethodName) jdk_52_method_15_code (2 : Nat) (Option.some Jvm.ClassFile.FieldType.byte), Jvm.Cond.code ({ cls := "com/example/libbuchi/libbuchi/automaton/TokenIsPinLaw", name := "kindOf", desc := "(I)Lcom/example/libbuchi/libbuchi/automaton/HoaTokenizer$Kind;" } : Jvm.MethodName) method_2_code (1 : Nat) (Option.some (Jvm.ClassFile.FieldType.object "com/example/libbuchi/libbuchi/automaton/HoaTokenizer$Kind")), Jvm.Cond.code ({ cls := "com/example/libbuchi/libbuchi/automaton/HoaTokenizer$Token", name := "<init>", desc := "(Lcom/example/libbuchi/libbuchi/automaton/HoaTokenizer$Kind;Ljava/lang/String;I)V" } : Jvm.MethodName) prog_10_method_1_code (4 : Nat) (Option.none : Option Jvm.ClassFile.FieldType), Jvm.Cond.code ({ cls := "com/example/libbuchi/libbuchi/automaton/HoaTokenizer$Token", name := "is", desc := "(Lcom/example/libbuchi/libbuchi/automaton/HoaTokenizer$Kind;Ljava/lang/String;)Z" } : Jvm.MethodName) prog_10_method_5_code (3 : Nat) (Option.some Jvm.ClassFile.FieldType.boolean), Jvm.Cond.code ({ cls := "java/lang/String", name := "equals", desc := "(Ljava/lang/Object;)Z" } : Jvm.MethodName) jdk_42_method_66_code (3 : Nat) (Option.some Jvm.ClassFile.FieldType.boolean), Jvm.Cond.code ({ cls := "java/lang/StringLatin1", name := "equals", desc := "([B[B)Z" } : Jvm.MethodName) jdk_43_method_13_code (3 : Nat) (Option.some Jvm.ClassFile.FieldType.boolean)]
set_option maxRecDepth 65536 in
theorem codes_eq : words1.filter isCode = codes1 := rfl
theorem w_codes : ∀ c ∈ words1.filter isCode, c.before args0 about1 = true := by
  rw [codes_eq]
  intro c hc
  simp only [codes1, List.mem_cons, List.not_mem_nil, or_false] at hc
  rcases hc with rfl | rfl | rfl | rfl | rfl | rfl | rfl | rfl | rfl | rfl | rfl | rfl | rfl
  · exact w_c0
  · exact w_c1
  · exact w_c2
  · exact w_c3
  · exact w_c4
  · exact w_c5
  · exact w_c6
  · exact w_c7
  · exact w_c8
  · exact w_c9
  · exact w_c10
  · exact w_c11
  · exact w_c12
set_option maxRecDepth 65536 in
theorem w_t1 : (words1.take 24).all (fun c => isCode c || c.before args0 about1) = true := by decide +kernel
set_option maxRecDepth 65536 in
theorem w_t2 : ((words1.drop 24).take 24).all (fun c => isCode c || c.before args0 about1) = true := by decide +kernel
set_option maxRecDepth 65536 in
theorem w_t3 : (((words1.drop 24).drop 24).take 24).all (fun c => isCode c || c.before args0 about1) = true := by decide +kernel
set_option maxRecDepth 65536 in
theorem w_t4 : (((words1.drop 24).drop 24).drop 24).all (fun c => isCode c || c.before args0 about1) = true := by decide +kernel
theorem w_tables : (allAtoms (Jvm.Cond.code x code maxLocals ret :: tables_1)).before args0 about1 = true := by
  rw [allAtoms_all]
  show words1.all (fun c => c.before args0 about1) = true
  refine all_split ?_ w_codes
  rw [← List.take_append_drop 24 words1, List.all_append, w_t1, ← List.take_append_drop 24 (words1.drop 24), List.all_append, w_t2, ← List.take_append_drop 24 ((words1.drop 24).drop 24), List.all_append, w_t3, w_t4]
  rfl
set_option maxRecDepth 65536 in
theorem w_rest : rest_1_c.before args0 about1 = true := by decide +kernel
set_option maxRecDepth 65536 in
theorem w_case : (Jvm.Cond.and given_1 narrow_1).before args0 about1 = true := by decide +kernel
set_option maxRecDepth 65536 in
theorem w_consts : constsHeld consts_1 about1 := Jvm.Lit.constsHeldB_iff.mp (by decide +kernel)
theorem w_applies : (headSpec (Jvm.Cond.code x code maxLocals ret :: tables_1) room_1).applies x e0.platform about1 = true :=
  (Spec.applies_iff w_frames).mpr ⟨w_running, w_runnable, w_alone, w_named, w_hears, w_ripe, w_room, w_tables⟩
theorem atStart : AtStart classFile x code maxLocals ret World_1 tables_1 room_1 Calls_1 rest_1 Pre_1 launch0 p0 e0 about1 theMethod args0 below0 :=
  ⟨lists_1, trivial, launch0.admits_env _ _ _, launch0.least_env, fairChoices_fair.cas, fairChoices_fair.clock, w_frames, w_args, w_heap, w_applies, ⟨w_consts, trivial⟩, w_rest, w_case⟩
end start1
theorem witness_1 : WitnessClaimed_1 := ⟨start1.p0, start1.e0, start1.about1, start1.theMethod, start1.args0, start1.below0, start1.atStart⟩
end Jvm.Pilot.@@N@@
